/- The proof of laws.FnP224Verify, text 13 of 36. Conditions: none. -/
import Derived.Test.YtmogojlijkddpaaGreatT10
import Derived.Test.YtmogojlijkddpaaGreatT11
noncomputable section

set_option maxRecDepth 100000
namespace Go.Vm
structure Ops (α : Type) where
  add : α -> α -> α
  sub : α -> α -> α
  mul : α -> α -> α
  zero : α
  one : α
def Ops.quad {α : Type} (O : Ops α) (f : α) : Ops (α × α) where
  add a b := (O.add a.1 b.1, O.add a.2 b.2)
  sub a b := (O.sub a.1 b.1, O.sub a.2 b.2)
  mul a b := (O.add (O.mul a.1 b.1) (O.mul f (O.mul a.2 b.2)), O.add (O.mul a.1 b.2) (O.mul a.2 b.1))
  zero := (O.zero, O.zero)
  one := (O.one, O.zero)
structure Ops.Rel {α β : Type} (O : Ops α) (O' : Ops β) (R : α -> β -> Prop) : Prop where
  add : ∀ {a b a' b'}, R a a' -> R b b' -> R (O.add a b) (O'.add a' b')
  sub : ∀ {a b a' b'}, R a a' -> R b b' -> R (O.sub a b) (O'.sub a' b')
  mul : ∀ {a b a' b'}, R a a' -> R b b' -> R (O.mul a b) (O'.mul a' b')
  zero : R O.zero O'.zero
  one : R O.one O'.one
section
variable {p : Nat} [NeZero p]
def OF (p : Nat) [NeZero p] : Ops (Fin p) := ⟨(· + ·), (· - ·), (· * ·), 0, 1⟩
def zc (n : Int) : Fin p := Fin.ofNat p (n % p).toNat
theorem zc_eq {a b : Int} (h : a % p = b % p) : (zc a : Fin p) = zc b := by simp [zc, h]
theorem zc_val (a : Int) : ((zc a : Fin p).val : Int) = a % p := by
  have hp : (p : Int) ≠ 0 := by have := NeZero.ne p; omega
  have h0 := Int.emod_nonneg a hp
  have h1 := Int.emod_lt_of_pos a (show (0 : Int) < p by have := NeZero.ne p; omega)
  simp only [zc, Fin.ofNat]
  rw [Nat.mod_eq_of_lt (by omega)]
  omega
theorem zc_of_val (a : Fin p) : zc (a.val : Int) = a := by
  apply Fin.ext
  have := zc_val (p := p) (a.val : Int)
  rw [Int.emod_eq_of_lt (by omega) (by have := a.isLt; omega)] at this
  omega
theorem zc_iff {a b : Int} : (zc a : Fin p) = zc b ↔ a % p = b % p :=
  ⟨fun h => by rw [<- zc_val (p := p) a, <- zc_val (p := p) b, h], zc_eq⟩
theorem zc_add (a b : Int) : (zc (a + b) : Fin p) = zc a + zc b := by
  apply Fin.ext
  have h1 := zc_val (p := p) (a + b)
  have h2 := zc_val (p := p) a
  have h3 := zc_val (p := p) b
  rw [Fin.val_add]
  have : (((zc a : Fin p).val + (zc b : Fin p).val) % p : Nat) = (zc (a + b) : Fin p).val := by
    apply Int.ofNat_inj.1
    rw [Int.natCast_emod, h1]
    push_cast
    rw [h2, h3, <- Int.add_emod]
  rw [this]
theorem zc_mul (a b : Int) : (zc (a * b) : Fin p) = zc a * zc b := by
  apply Fin.ext
  have h1 := zc_val (p := p) (a * b)
  have h2 := zc_val (p := p) a
  have h3 := zc_val (p := p) b
  rw [Fin.val_mul]
  have : (((zc a : Fin p).val * (zc b : Fin p).val) % p : Nat) = (zc (a * b) : Fin p).val := by
    apply Int.ofNat_inj.1
    rw [Int.natCast_emod, h1]
    push_cast
    rw [h2, h3, <- Int.mul_emod]
  rw [this]
theorem zc_zero : (zc 0 : Fin p) = 0 := by apply Fin.ext; simp [zc]
theorem zc_one : (zc 1 : Fin p) = 1 := by
  apply Fin.ext
  have := zc_val (p := p) 1
  apply Int.ofNat_inj.1
  rw [this]
  rcases Nat.lt_or_ge 1 p with h | h
  · rw [Int.emod_eq_of_lt (by omega) (by omega)]
    have : ((1 : Fin p).val) = 1 % p := rfl
    rw [this, Nat.mod_eq_of_lt h]; rfl
  · have h1 : p = 1 := by have := NeZero.ne p; omega
    have := (1 : Fin p).isLt
    subst h1
    simp
theorem zc_sub (a b : Int) : (zc (a - b) : Fin p) = zc a - zc b := by
  have h : (zc (a - b) : Fin p) + zc b = zc a := by rw [<- zc_add]; congr 1; omega
  rw [<- h]; grind
end
structure Mn where
  e1 : Nat
  e2 : Nat
  e3 : Nat
  eb : Nat
def Mn.mul (a b : Mn) : Mn := ⟨a.e1 + b.e1, a.e2 + b.e2, a.e3 + b.e3, a.eb + b.eb⟩
abbrev MP := List (Int × Mn)
def MP.neg (l : MP) : MP := l.map fun t => (-t.1, t.2)
def MP.mul (l l' : MP) : MP := l.flatMap fun t => l'.map fun u => (t.1 * u.1, t.2.mul u.2)
def OM : Ops MP := ⟨(· ++ ·), fun a b => a ++ MP.neg b, MP.mul, [], [(1, ⟨0, 0, 0, 0⟩)]⟩
def Ops.pw {α : Type} (O : Ops α) (x : α) : Nat -> α
  | 0 => O.one
  | n + 1 => O.mul x (O.pw x n)
structure Pt (α : Type) where
  x1 : α
  x2 : α
  x3 : α
  b : α
def Mn.ev {α : Type} (O : Ops α) (v : Pt α) (m : Mn) : α := O.mul (O.mul (O.pw v.x1 m.e1) (O.pw v.x2 m.e2)) (O.mul (O.pw v.x3 m.e3) (O.pw v.b m.eb))
def OI : Ops Int := ⟨(· + ·), (· - ·), (· * ·), 0, 1⟩
def MP.evI (v : Pt Int) : MP -> Int
  | [] => 0
  | t :: l => t.1 * t.2.ev OI v + MP.evI v l
section
variable {p : Nat} [NeZero p]
def MP.evF (v : Pt (Fin p)) : MP -> Fin p
  | [] => 0
  | t :: l => zc t.1 * t.2.ev (OF p) v + MP.evF v l
theorem pwI_add (x : Int) (m n : Nat) : OI.pw x (m + n) = OI.pw x m * OI.pw x n := by
  induction m with
  | zero => rw [Nat.zero_add]; show _ = 1 * _; rw [Int.one_mul]
  | succ m ih =>
    rw [Nat.succ_add]
    show x * OI.pw x (m + n) = x * OI.pw x m * OI.pw x n
    rw [ih, Int.mul_assoc]
theorem pwF_add (x : Fin p) (m n : Nat) : (OF p).pw x (m + n) = (OF p).pw x m * (OF p).pw x n := by
  induction m with
  | zero => rw [Nat.zero_add]; show _ = 1 * _; grind
  | succ m ih =>
    rw [Nat.succ_add]
    show x * (OF p).pw x (m + n) = x * (OF p).pw x m * (OF p).pw x n
    rw [ih]; grind
theorem mn_mulI (v : Pt Int) (a b : Mn) : (a.mul b).ev OI v = a.ev OI v * b.ev OI v := by
  simp only [Mn.ev, Mn.mul, pwI_add]
  simp only [OI]
  grind
theorem mn_mulF (v : Pt (Fin p)) (a b : Mn) : (a.mul b).ev (OF p) v = a.ev (OF p) v * b.ev (OF p) v := by
  simp only [Mn.ev, Mn.mul, pwF_add]
  simp only [OF]
  grind
theorem evI_append (v : Pt Int) (l l' : MP) : MP.evI v (l ++ l') = MP.evI v l + MP.evI v l' := by
  induction l with
  | nil => simp [MP.evI]
  | cons t l ih => simp only [List.cons_append, MP.evI, ih]; omega
theorem evF_append (v : Pt (Fin p)) (l l' : MP) : MP.evF v (l ++ l') = MP.evF v l + MP.evF v l' := by
  induction l with
  | nil => simp only [List.nil_append, MP.evF]; grind
  | cons t l ih => simp only [List.cons_append, MP.evF, ih]; grind
theorem evI_neg (v : Pt Int) (l : MP) : MP.evI v (MP.neg l) = - MP.evI v l := by
  induction l with
  | nil => rfl
  | cons t l ih => simp only [MP.neg, List.map_cons, MP.evI] at ih ⊢; rw [ih]; grind
theorem evF_neg (v : Pt (Fin p)) (l : MP) : MP.evF v (MP.neg l) = 0 - MP.evF v l := by
  induction l with
  | nil => simp only [MP.neg, List.map_nil, MP.evF]; grind
  | cons t l ih =>
    simp only [MP.neg, List.map_cons, MP.evF] at ih ⊢
    rw [ih, show -t.1 = 0 - t.1 by omega, zc_sub, zc_zero]; grind
theorem evI_scale (v : Pt Int) (t : Int × Mn) (l : MP) : MP.evI v (l.map fun u => (t.1 * u.1, t.2.mul u.2)) = t.1 * t.2.ev OI v * MP.evI v l := by
  induction l with
  | nil => simp [MP.evI]
  | cons u l ih => simp only [List.map_cons, MP.evI, ih, mn_mulI]; grind
theorem evF_scale (v : Pt (Fin p)) (t : Int × Mn) (l : MP) : MP.evF v (l.map fun u => (t.1 * u.1, t.2.mul u.2)) = zc t.1 * t.2.ev (OF p) v * MP.evF v l := by
  induction l with
  | nil => simp only [List.map_nil, MP.evF]; grind
  | cons u l ih => simp only [List.map_cons, MP.evF, ih, mn_mulF, zc_mul]; grind
theorem evI_mul (v : Pt Int) (l l' : MP) : MP.evI v (MP.mul l l') = MP.evI v l * MP.evI v l' := by
  induction l with
  | nil => simp [MP.mul, MP.evI]
  | cons t l ih =>
    simp only [MP.mul, List.flatMap_cons, evI_append, evI_scale] at ih ⊢
    rw [ih]; simp only [MP.evI]; grind
theorem evF_mul (v : Pt (Fin p)) (l l' : MP) : MP.evF v (MP.mul l l') = MP.evF v l * MP.evF v l' := by
  induction l with
  | nil => simp only [MP.mul, List.flatMap_nil, MP.evF]; grind
  | cons t l ih =>
    simp only [MP.mul, List.flatMap_cons, evF_append, evF_scale] at ih ⊢
    rw [ih]; simp only [MP.evF]; grind
theorem relI (v : Pt Int) : OM.Rel OI (fun l a => MP.evI v l = a) where
  add := fun {a b a' b'} h h' => by subst h; subst h'; exact evI_append v a b
  sub := fun {a b a' b'} h h' => by
    subst h; subst h'
    show MP.evI v (a ++ MP.neg b) = MP.evI v a - MP.evI v b
    rw [evI_append, evI_neg]; omega
  mul := fun {a b a' b'} h h' => by subst h; subst h'; exact evI_mul v a b
  zero := rfl
  one := by simp [OM, OI, MP.evI, Mn.ev, Ops.pw]
theorem relF (v : Pt (Fin p)) : OM.Rel (OF p) (fun l a => MP.evF v l = a) where
  add := fun {a b a' b'} h h' => by subst h; subst h'; exact evF_append v a b
  sub := fun {a b a' b'} h h' => by
    subst h; subst h'
    show MP.evF v (a ++ MP.neg b) = MP.evF v a - MP.evF v b
    rw [evF_append, evF_neg]; grind
  mul := fun {a b a' b'} h h' => by subst h; subst h'; exact evF_mul v a b
  zero := rfl
  one := by
    simp only [OM, OF, MP.evF, Mn.ev, Ops.pw, zc_one]; grind
end
theorem Ops.Rel.quad {α β : Type} {O : Ops α} {O' : Ops β} {R : α -> β -> Prop} (h : O.Rel O' R) {f : α} {f' : β} (hf : R f f') :
    (O.quad f).Rel (O'.quad f') (fun a b => R a.1 b.1 /\ R a.2 b.2) where
  add := fun h1 h2 => ⟨h.add h1.1 h2.1, h.add h1.2 h2.2⟩
  sub := fun h1 h2 => ⟨h.sub h1.1 h2.1, h.sub h1.2 h2.2⟩
  mul := fun h1 h2 => ⟨h.add (h.mul h1.1 h2.1) (h.mul hf (h.mul h1.2 h2.2)), h.add (h.mul h1.1 h2.2) (h.mul h1.2 h2.1)⟩
  zero := ⟨h.zero, h.zero⟩
  one := ⟨h.one, h.zero⟩
theorem Ops.Rel.quadF {p : Nat} [NeZero p] {α : Type} {O : Ops α} {e : α -> Fin p} (h : O.Rel (OF p) (fun l a => e l = a)) {f : α} {y : Fin p} (hy : y * y = e f) :
    (O.quad f).Rel (OF p) (fun l a => e l.1 + e l.2 * y = a) where
  add := fun {a b a' b'} h1 h2 => by
    subst h1; subst h2
    show e (O.add a.1 b.1) + e (O.add a.2 b.2) * y = (e a.1 + e a.2 * y) + (e b.1 + e b.2 * y)
    rw [h.add (a := a.1) (b := b.1) rfl rfl, h.add (a := a.2) (b := b.2) rfl rfl]
    simp only [OF]; grind
  sub := fun {a b a' b'} h1 h2 => by
    subst h1; subst h2
    show e (O.sub a.1 b.1) + e (O.sub a.2 b.2) * y = (e a.1 + e a.2 * y) - (e b.1 + e b.2 * y)
    rw [h.sub (a := a.1) (b := b.1) rfl rfl, h.sub (a := a.2) (b := b.2) rfl rfl]
    simp only [OF]; grind
  mul := fun {a b a' b'} h1 h2 => by
    subst h1; subst h2
    show e (O.add (O.mul a.1 b.1) (O.mul f (O.mul a.2 b.2))) + e (O.add (O.mul a.1 b.2) (O.mul a.2 b.1)) * y = (e a.1 + e a.2 * y) * (e b.1 + e b.2 * y)
    rw [h.add (h.mul (a := a.1) (b := b.1) rfl rfl) (h.mul (a := f) rfl (h.mul (a := a.2) (b := b.2) rfl rfl)),
      h.add (h.mul (a := a.1) (b := b.2) rfl rfl) (h.mul (a := a.2) (b := b.1) rfl rfl), <- hy]
    simp only [OF]; grind
  zero := by
    show e O.zero + e O.zero * y = 0
    rw [h.zero]; simp only [OF]; grind
  one := by
    show e O.one + e O.zero * y = 1
    rw [h.zero, h.one]; simp only [OF]; grind
structure V4 where
  a : Int
  b : Int
  c : Int
  d : Int
def V4.add (u v : V4) : V4 := ⟨u.a + v.a, u.b + v.b, u.c + v.c, u.d + v.d⟩
def V4.sub (u v : V4) : V4 := ⟨u.a - v.a, u.b - v.b, u.c - v.c, u.d - v.d⟩
def V4.le (u v : V4) : Prop := u.a <= v.a /\ u.b <= v.b /\ u.c <= v.c /\ u.d <= v.d
def Mn.in (m : Mn) (v : V4) : Prop := 2 * (m.e1 : Int) <= v.a /\ 2 * (m.e2 : Int) <= v.b /\ 2 * (m.e3 : Int) <= v.c /\ 2 * (m.eb : Int) <= v.d
def L1 : MP -> Nat
  | [] => 0
  | t :: l => t.1.natAbs + L1 l
theorem L1_append (l l' : MP) : L1 (l ++ l') = L1 l + L1 l' := by
  induction l with
  | nil => simp [L1]
  | cons t l ih => simp only [List.cons_append, L1, ih]; omega
theorem L1_neg (l : MP) : L1 (MP.neg l) = L1 l := by
  induction l with
  | nil => rfl
  | cons t l ih => simp only [MP.neg, List.map_cons, L1] at ih ⊢; rw [ih]; omega
theorem L1_scale (t : Int × Mn) (l : MP) : L1 (l.map fun u => (t.1 * u.1, t.2.mul u.2)) = t.1.natAbs * L1 l := by
  induction l with
  | nil => simp [L1]
  | cons u l ih => simp only [List.map_cons, L1, ih, Int.natAbs_mul]; grind
theorem L1_mul (l l' : MP) : L1 (MP.mul l l') = L1 l * L1 l' := by
  induction l with
  | nil => simp [MP.mul, L1]
  | cons t l ih =>
    simp only [MP.mul, List.flatMap_cons, L1_append, L1_scale] at ih ⊢
    rw [ih]; simp only [L1]; grind
structure BdL {α : Type} (O : Ops α) (K : Nat) (Bd : V4 -> Nat -> α -> Prop) : Prop where
  add : ∀ {v N M a b}, Bd v N a -> Bd v M b -> Bd v (N + M) (O.add a b)
  sub : ∀ {v N M a b}, Bd v N a -> Bd v M b -> Bd v (N + M) (O.sub a b)
  mul : ∀ {v v' N M a b}, Bd v N a -> Bd v' M b -> Bd (v.add v') (K * N * M) (O.mul a b)
  mono : ∀ {v v' N M a}, v.le v' -> N <= M -> Bd v N a -> Bd v' M a
  zero : ∀ v, Bd v 0 O.zero
  one : Bd ⟨0, 0, 0, 0⟩ 1 O.one
def BdM (v : V4) (N : Nat) (l : MP) : Prop := L1 l <= N /\ ∀ t ∈ l, t.2.in v
theorem bdM : BdL OM 1 BdM where
  add := fun {v N M a b} h h' => ⟨by show L1 (a ++ b) <= _; rw [L1_append]; have := h.1; have := h'.1; omega, fun t ht => by
    rcases List.mem_append.1 ht with h1 | h1
    · exact h.2 t h1
    · exact h'.2 t h1⟩
  sub := fun {v N M a b} h h' => ⟨by show L1 (a ++ MP.neg b) <= _; rw [L1_append, L1_neg]; have := h.1; have := h'.1; omega, fun t ht => by
    rcases List.mem_append.1 ht with h1 | h1
    · exact h.2 t h1
    · obtain ⟨u, hu, rfl⟩ := List.mem_map.1 h1
      exact h'.2 u hu⟩
  mul := fun {v v' N M a b} h h' => ⟨by
    show L1 (MP.mul a b) <= _
    rw [L1_mul, Nat.one_mul]; exact Nat.mul_le_mul h.1 h'.1, fun t ht => by
    obtain ⟨u, hu, ht⟩ := List.mem_flatMap.1 ht
    obtain ⟨w, hw, rfl⟩ := List.mem_map.1 ht
    have h1 := h.2 u hu
    have h2 := h'.2 w hw
    unfold Mn.in at *
    simp only [Mn.mul, V4.add]
    omega⟩
  mono := fun {v v' N M a} hv hn h => ⟨by have := h.1; omega, fun t ht => by
    have h1 := h.2 t ht
    unfold Mn.in V4.le at *
    omega⟩
  zero := fun v => ⟨Nat.le_refl _, fun t ht => by cases ht⟩
  one := ⟨by decide, fun t ht => by
    have ht' : t = (1, ⟨0, 0, 0, 0⟩) := by simpa [OM] using ht
    subst ht'
    exact ⟨by decide, by decide, by decide, by decide⟩⟩
def BdQ {α : Type} (δ : V4) (Bd : V4 -> Nat -> α -> Prop) (v : V4) (N : Nat) (x : α × α) : Prop :=
  ∃ A B, A + B <= N /\ Bd v A x.1 /\ Bd (v.sub δ) B x.2
theorem V4.le_refl (v : V4) : v.le v := ⟨by omega, by omega, by omega, by omega⟩
theorem bdQ {α : Type} {O : Ops α} {K F : Nat} {Bd : V4 -> Nat -> α -> Prop} (h : BdL O K Bd) (hK : 1 <= K) (hF : 1 <= F) {f : α} {δ : V4} (hf : Bd (δ.add δ) F f) : BdL (O.quad f) (K * K * F) (BdQ δ Bd) where
  add := fun {v N M a b} h1 h2 => by
    obtain ⟨A, B, e, p, q⟩ := h1
    obtain ⟨A', B', e', p', q'⟩ := h2
    exact ⟨A + A', B + B', by omega, h.add p p', h.add q q'⟩
  sub := fun {v N M a b} h1 h2 => by
    obtain ⟨A, B, e, p, q⟩ := h1
    obtain ⟨A', B', e', p', q'⟩ := h2
    exact ⟨A + A', B + B', by omega, h.sub p p', h.sub q q'⟩
  mul := fun {v v' N M a b} h1 h2 => by
    obtain ⟨A, B, e, p, q⟩ := h1
    obtain ⟨A', B', e', p', q'⟩ := h2
    refine ⟨K * A * A' + K * F * (K * B * B'), K * A * B' + K * B * A', ?_, ?_, ?_⟩
    · have e1 : K <= K * K * F := by
        have : K * 1 * 1 <= K * K * F := Nat.mul_le_mul (Nat.mul_le_mul_left _ hK) hF
        omega
      have e2 : (A + B) * (A' + B') <= N * M := Nat.mul_le_mul e e'
      have e3 : K * K * F * ((A + B) * (A' + B')) <= K * K * F * (N * M) := Nat.mul_le_mul_left _ e2
      have e4 : K * (A * A') <= K * K * F * (A * A') := Nat.mul_le_mul_right _ e1
      have e5 : K * (A * B') <= K * K * F * (A * B') := Nat.mul_le_mul_right _ e1
      have e6 : K * (B * A') <= K * K * F * (B * A') := Nat.mul_le_mul_right _ e1
      have e7 : K * K * F * ((A + B) * (A' + B')) = K * K * F * (A * A') + K * K * F * (A * B') + K * K * F * (B * A') + K * K * F * (B * B') := by grind
      have e8 : K * F * (K * B * B') = K * K * F * (B * B') := by grind
      have e9 : K * K * F * N * M = K * K * F * (N * M) := by grind
      rw [e8, e9, Nat.mul_assoc K A A', Nat.mul_assoc K A B', Nat.mul_assoc K B A']
      omega
    · refine h.mono ?_ (Nat.le_refl _) (h.add (v := v.add v') (h.mul p p') (h.mono ?_ (Nat.le_refl _) (h.mul hf (h.mul q q'))))
      · exact V4.le_refl _
      · unfold V4.le V4.add V4.sub; simp only []; omega
    · refine h.add (h.mono ?_ (Nat.le_refl _) (h.mul p q')) (h.mono ?_ (Nat.le_refl _) (h.mul q p'))
      all_goals (unfold V4.le V4.add V4.sub; simp only []; omega)
  mono := fun {v v' N M a} hv hn h1 => by
    obtain ⟨A, B, e, p, q⟩ := h1
    refine ⟨A, B, by omega, h.mono hv (Nat.le_refl _) p, h.mono ?_ (Nat.le_refl _) q⟩
    unfold V4.le V4.sub at *; simp only []; omega
  zero := fun v => ⟨0, 0, Nat.le_refl _, h.zero v, h.zero _⟩
  one := ⟨1, 0, Nat.le_refl _, h.one, h.zero _⟩
def imax (a b : Int) : Int := if a <= b then b else a
theorem le_imax_l (a b : Int) : a <= imax a b := by unfold imax; split <;> omega
theorem le_imax_r (a b : Int) : b <= imax a b := by unfold imax; split <;> omega
def V4.max (u v : V4) : V4 := ⟨imax u.a v.a, imax u.b v.b, imax u.c v.c, imax u.d v.d⟩
def OB (K : Nat) : Ops (V4 × Nat) := ⟨fun a b => (a.1.max b.1, a.2 + b.2), fun a b => (a.1.max b.1, a.2 + b.2), fun a b => (a.1.add b.1, K * a.2 * b.2), (⟨0, 0, 0, 0⟩, 0), (⟨0, 0, 0, 0⟩, 1)⟩
theorem BdL.rel {α : Type} {O : Ops α} {K : Nat} {Bd : V4 -> Nat -> α -> Prop} (h : BdL O K Bd) : O.Rel (OB K) (fun a t => Bd t.1 t.2 a) where
  add := fun {_ _ _ _} h1 h2 => h.add (h.mono ⟨le_imax_l _ _, le_imax_l _ _, le_imax_l _ _, le_imax_l _ _⟩ (Nat.le_refl _) h1) (h.mono ⟨le_imax_r _ _, le_imax_r _ _, le_imax_r _ _, le_imax_r _ _⟩ (Nat.le_refl _) h2)
  sub := fun {_ _ _ _} h1 h2 => h.sub (h.mono ⟨le_imax_l _ _, le_imax_l _ _, le_imax_l _ _, le_imax_l _ _⟩ (Nat.le_refl _) h1) (h.mono ⟨le_imax_r _ _, le_imax_r _ _, le_imax_r _ _, le_imax_r _ _⟩ (Nat.le_refl _) h2)
  mul := fun h1 h2 => h.mul h1 h2
  zero := h.zero _
  one := h.one
def cf (l : List (Int × Nat)) (k : Nat) : Int :=
  match l with
  | [] => 0
  | t :: l => (if t.2 = k then t.1 else 0) + cf l k
def evB (B : Int) : List (Int × Nat) -> Int
  | [] => 0
  | t :: l => t.1 * B ^ t.2 + evB B l
def L1' : List (Int × Nat) -> Nat
  | [] => 0
  | t :: l => t.1.natAbs + L1' l
theorem cf_le (l : List (Int × Nat)) (k : Nat) : (cf l k).natAbs <= L1' l := by
  induction l with
  | nil => simp [cf, L1']
  | cons t l ih => simp only [cf, L1']; split <;> omega
def Hn (B : Int) (a : Nat -> Int) : Nat -> Int
  | 0 => 0
  | K + 1 => a 0 + B * Hn B (fun k => a (k + 1)) K
theorem Hn_zero {B : Int} {L : Nat} (hB : 2 * (L : Int) < B) : ∀ (K : Nat) (a : Nat -> Int), (∀ k, (a k).natAbs <= L) -> Hn B a K = 0 -> ∀ k, k < K -> a k = 0
  | 0, _, _, _, k, hk => by omega
  | K + 1, a, ha, h, k, hk => by
    simp only [Hn] at h
    have h0 := ha 0
    have hz : a 0 = 0 := by
      have hd : B ∣ a 0 := ⟨-Hn B (fun k => a (k + 1)) K, by grind⟩
      obtain ⟨q, hq⟩ := hd
      by_cases hq0 : q = 0
      · rw [hq, hq0]; simp
      · exfalso
        have hB0 : 0 < B := by omega
        have : B.natAbs <= (a 0).natAbs := by
          rw [hq, Int.natAbs_mul]
          exact Nat.le_mul_of_pos_right _ (by omega)
        omega
    have ht : Hn B (fun k => a (k + 1)) K = 0 := by
      rw [hz, Int.zero_add] at h
      rcases Int.mul_eq_zero.1 h with e | e
      · omega
      · exact e
    cases k with
    | zero => exact hz
    | succ k => exact Hn_zero hB K _ (fun k => ha (k + 1)) ht k (by omega)
theorem Hn_add (B : Int) : ∀ (K : Nat) (a b : Nat -> Int), Hn B (fun k => a k + b k) K = Hn B a K + Hn B b K
  | 0, _, _ => rfl
  | K + 1, a, b => by simp only [Hn]; rw [Hn_add B K]; grind
theorem Hn_null (B : Int) : ∀ (K : Nat), Hn B (fun _ => 0) K = 0
  | 0 => rfl
  | K + 1 => by simp only [Hn]; rw [Hn_null B K]; simp
theorem Hn_single (B c : Int) : ∀ (K k : Nat), k < K -> Hn B (fun j => if k = j then c else 0) K = c * B ^ k
  | 0, k, h => by omega
  | K + 1, 0, _ => by
    simp only [Hn, if_true, Int.pow_zero, Int.mul_one]
    rw [show (fun k : Nat => if 0 = k + 1 then c else 0) = fun _ => 0 from funext fun k => if_neg (by omega), Hn_null]
    simp
  | K + 1, k + 1, h => by
    simp only [Hn]
    rw [if_neg (by omega)]
    rw [show (fun j : Nat => if k + 1 = j + 1 then c else 0) = fun j => if k = j then c else 0 from funext fun j => by simp, Hn_single B c K k (by omega), Int.pow_succ]
    grind
theorem evB_Hn (B : Int) (K : Nat) : ∀ (l : List (Int × Nat)), (∀ t ∈ l, t.2 < K) -> evB B l = Hn B (cf l) K
  | [], _ => by
    rw [show cf [] = fun _ => 0 from rfl, Hn_null]; rfl
  | t :: l, h => by
    rw [show cf (t :: l) = fun k => (if t.2 = k then t.1 else 0) + cf l k from rfl, Hn_add, Hn_single _ _ _ _ (h t (by simp)), <- evB_Hn B K l fun u hu => h u (by simp [hu])]
    rfl
section
variable {p : Nat} [NeZero p]
def evG (g : Nat -> Fin p) : List (Int × Nat) -> Fin p
  | [] => 0
  | t :: l => zc t.1 * g t.2 + evG g l
def Gn (g : Nat -> Fin p) (a : Nat -> Int) : Nat -> Fin p
  | 0 => 0
  | K + 1 => zc (a 0) * g 0 + Gn (fun k => g (k + 1)) (fun k => a (k + 1)) K
theorem Gn_add : ∀ (K : Nat) (g : Nat -> Fin p) (a b : Nat -> Int), Gn g (fun k => a k + b k) K = Gn g a K + Gn g b K
  | 0, _, _, _ => by simp only [Gn]; grind
  | K + 1, g, a, b => by simp only [Gn]; rw [Gn_add K, zc_add]; grind
theorem Gn_null : ∀ (K : Nat) (g : Nat -> Fin p), Gn g (fun _ => 0) K = 0
  | 0, _ => rfl
  | K + 1, g => by simp only [Gn]; rw [Gn_null K, zc_zero]; grind
theorem Gn_single (c : Int) : ∀ (K k : Nat) (g : Nat -> Fin p), k < K -> Gn g (fun j => if k = j then c else 0) K = zc c * g k
  | 0, k, _, h => by omega
  | K + 1, 0, g, _ => by
    simp only [Gn, if_true]
    rw [show (fun k : Nat => if 0 = k + 1 then c else 0) = fun _ => 0 from funext fun k => if_neg (by omega), Gn_null]
    grind
  | K + 1, k + 1, g, h => by
    simp only [Gn]
    rw [if_neg (by omega)]
    rw [show (fun j : Nat => if k + 1 = j + 1 then c else 0) = fun j => if k = j then c else 0 from funext fun j => by simp, Gn_single c K k _ (by omega), zc_zero]
    grind
theorem evG_Gn (g : Nat -> Fin p) (K : Nat) : ∀ (l : List (Int × Nat)), (∀ t ∈ l, t.2 < K) -> evG g l = Gn g (cf l) K
  | [], _ => by
    rw [show cf [] = fun _ => 0 from rfl, Gn_null]; rfl
  | t :: l, h => by
    rw [show cf (t :: l) = fun k => (if t.2 = k then t.1 else 0) + cf l k from rfl, Gn_add, Gn_single _ _ _ _ (h t (by simp)), <- evG_Gn g K l fun u hu => h u (by simp [hu])]
    rfl
theorem Gn_of_zero : ∀ (K : Nat) (g : Nat -> Fin p) (a : Nat -> Int), (∀ k, k < K -> a k = 0) -> Gn g a K = 0
  | 0, _, _, _ => rfl
  | K + 1, g, a, h => by
    simp only [Gn]
    rw [h 0 (by omega), Gn_of_zero K _ _ fun k hk => h (k + 1) (by omega), zc_zero]; grind
theorem exists_bound : ∀ (l : List (Int × Nat)), ∃ K, ∀ t ∈ l, t.2 < K
  | [] => ⟨0, fun t ht => by cases ht⟩
  | t :: l => by
    obtain ⟨K, hK⟩ := exists_bound l
    refine ⟨max K (t.2 + 1), fun u hu => ?_⟩
    rcases List.mem_cons.1 hu with rfl | hu
    · omega
    · have := hK u hu; omega
theorem kron1 {B : Int} {l : List (Int × Nat)} (hB : 2 * (L1' l : Int) < B) (h : evB B l = 0) (g : Nat -> Fin p) : evG g l = 0 := by
  obtain ⟨K, hK⟩ := exists_bound l
  rw [evB_Hn B K l hK] at h
  rw [evG_Gn g K l hK]
  exact Gn_of_zero K g _ fun k hk => Hn_zero hB K (cf l) (fun k => cf_le l k) h k hk
def Mn.enc (D1 D2 D3 : Nat) (m : Mn) : Nat := m.e1 + D1 * (m.e2 + D2 * (m.e3 + D3 * m.eb))
def Mn.dec (D1 D2 D3 : Nat) (k : Nat) : Mn := ⟨k % D1, k / D1 % D2, k / D1 / D2 % D3, k / D1 / D2 / D3⟩
theorem dec_enc {D1 D2 D3 : Nat} {m : Mn} (h1 : m.e1 < D1) (h2 : m.e2 < D2) (h3 : m.e3 < D3) : Mn.dec D1 D2 D3 (m.enc D1 D2 D3) = m := by
  have a1 : (m.e1 + D1 * (m.e2 + D2 * (m.e3 + D3 * m.eb))) / D1 = m.e2 + D2 * (m.e3 + D3 * m.eb) := by
    rw [Nat.add_mul_div_left _ _ (by omega), Nat.div_eq_of_lt h1, Nat.zero_add]
  have a2 : (m.e2 + D2 * (m.e3 + D3 * m.eb)) / D2 = m.e3 + D3 * m.eb := by
    rw [Nat.add_mul_div_left _ _ (by omega), Nat.div_eq_of_lt h2, Nat.zero_add]
  have a3 : (m.e3 + D3 * m.eb) / D3 = m.eb := by
    rw [Nat.add_mul_div_left _ _ (by omega), Nat.div_eq_of_lt h3, Nat.zero_add]
  unfold Mn.enc Mn.dec
  rw [a1, a2, a3, Nat.add_mul_mod_self_left, Nat.add_mul_mod_self_left, Nat.add_mul_mod_self_left, Nat.mod_eq_of_lt h1, Nat.mod_eq_of_lt h2, Nat.mod_eq_of_lt h3]
def ptKr (B : Int) (D1 D2 D3 : Nat) : Pt Int := ⟨B, B ^ D1, B ^ (D1 * D2), B ^ (D1 * D2 * D3)⟩
theorem pwI_eq (x : Int) (n : Nat) : OI.pw x n = x ^ n := by
  induction n with
  | zero => exact (Int.pow_zero x).symm
  | succ n ih => show x * OI.pw x n = _; rw [ih, Int.pow_succ, Int.mul_comm]
theorem mn_evB (B : Int) (D1 D2 D3 : Nat) (m : Mn) : m.ev OI (ptKr B D1 D2 D3) = B ^ m.enc D1 D2 D3 := by
  simp only [Mn.ev, ptKr, pwI_eq, Mn.enc]
  show B ^ m.e1 * (B ^ D1) ^ m.e2 * ((B ^ (D1 * D2)) ^ m.e3 * (B ^ (D1 * D2 * D3)) ^ m.eb) = _
  rw [<- Int.pow_mul, <- Int.pow_mul, <- Int.pow_mul, <- Int.pow_add, <- Int.pow_add, <- Int.pow_add]
  congr 1
  grind
theorem evI_evB (B : Int) (D1 D2 D3 : Nat) (l : MP) : MP.evI (ptKr B D1 D2 D3) l = evB B (l.map fun t => (t.1, t.2.enc D1 D2 D3)) := by
  induction l with
  | nil => rfl
  | cons t l ih => simp only [MP.evI, List.map_cons, evB, ih, mn_evB]
theorem L1'_map (D1 D2 D3 : Nat) (l : MP) : L1' (l.map fun t => (t.1, t.2.enc D1 D2 D3)) = L1 l := by
  induction l with
  | nil => rfl
  | cons t l ih => simp only [List.map_cons, L1', L1, ih]
theorem kron {B : Int} {D1 D2 D3 : Nat} {l : MP} (hB : 2 * (L1 l : Int) < B) (hd : ∀ t ∈ l, t.2.e1 < D1 /\ t.2.e2 < D2 /\ t.2.e3 < D3) (h : MP.evI (ptKr B D1 D2 D3) l = 0) (v : Pt (Fin p)) : MP.evF v l = 0 := by
  rw [evI_evB] at h
  have := kron1 (by rw [L1'_map]; exact hB) h (fun k => (Mn.dec D1 D2 D3 k).ev (OF p) v)
  rw [<- this]
  clear this h hB
  induction l with
  | nil => rfl
  | cons t l ih =>
    simp only [MP.evF, List.map_cons, evG]
    obtain ⟨a, b, c⟩ := hd t (by simp)
    rw [dec_enc a b c, ih fun u hu => hd u (by simp [hu])]
end
def rcb {α : Type} (O : Ops α) (b : α) (P Q : α × α × α) : α × α × α :=
  let t0 := O.mul P.1 Q.1
  let t1 := O.mul P.2.1 Q.2.1
  let t2 := O.mul P.2.2 Q.2.2
  let t3 := O.sub (O.mul (O.add P.1 P.2.1) (O.add Q.1 Q.2.1)) (O.add t0 t1)
  let t4 := O.sub (O.mul (O.add P.2.1 P.2.2) (O.add Q.2.1 Q.2.2)) (O.add t1 t2)
  let y3 := O.sub (O.mul (O.add P.1 P.2.2) (O.add Q.1 Q.2.2)) (O.add t0 t2)
  let x3 := O.sub y3 (O.mul b t2)
  let x3 := O.add x3 (O.add x3 x3)
  let z3 := O.sub t1 x3
  let x3 := O.add t1 x3
  let t2 := O.add (O.add t2 t2) t2
  let y3 := O.sub (O.sub (O.mul b y3) t2) t0
  let y3 := O.add (O.add y3 y3) y3
  let t0 := O.sub (O.add (O.add t0 t0) t0) t2
  (O.sub (O.mul t3 x3) (O.mul t4 y3), O.add (O.mul x3 z3) (O.mul t0 y3), O.add (O.mul t4 z3) (O.mul t3 t0))
def crossT {α : Type} (O : Ops α) (P Q : α × α × α) : α × α × α :=
  (O.sub (O.mul P.1 Q.2.1) (O.mul P.2.1 Q.1), O.sub (O.mul P.1 Q.2.2) (O.mul P.2.2 Q.1), O.sub (O.mul P.2.1 Q.2.2) (O.mul P.2.2 Q.2.1))
def ascT {α : Type} (O : Ops α) (b : α) (P Q R : α × α × α) : α × α × α :=
  crossT O (rcb O b (rcb O b P Q) R) (rcb O b P (rcb O b Q R))
def R3 {α β : Type} (R : α -> β -> Prop) (a : α × α × α) (b : β × β × β) : Prop := R a.1 b.1 /\ R a.2.1 b.2.1 /\ R a.2.2 b.2.2
theorem rcb_rel {α β : Type} {O : Ops α} {O' : Ops β} {R : α -> β -> Prop} (h : O.Rel O' R) {b : α} {b' : β} (hb : R b b') {P Q : α × α × α} {P' Q' : β × β × β} (hP : R3 R P P') (hQ : R3 R Q Q') :
    R3 R (rcb O b P Q) (rcb O' b' P' Q') := by
  obtain ⟨p1, p2, p3⟩ := hP
  obtain ⟨q1, q2, q3⟩ := hQ
  have t0 := h.mul p1 q1
  have t1 := h.mul p2 q2
  have t2 := h.mul p3 q3
  have t3 := h.sub (h.mul (h.add p1 p2) (h.add q1 q2)) (h.add t0 t1)
  have t4 := h.sub (h.mul (h.add p2 p3) (h.add q2 q3)) (h.add t1 t2)
  have y3 := h.sub (h.mul (h.add p1 p3) (h.add q1 q3)) (h.add t0 t2)
  have x3 := h.sub y3 (h.mul hb t2)
  have x3 := h.add x3 (h.add x3 x3)
  have z3 := h.sub t1 x3
  have x3 := h.add t1 x3
  have t2 := h.add (h.add t2 t2) t2
  have y3 := h.sub (h.sub (h.mul hb y3) t2) t0
  have y3 := h.add (h.add y3 y3) y3
  have t0 := h.sub (h.add (h.add t0 t0) t0) t2
  exact ⟨h.sub (h.mul t3 x3) (h.mul t4 y3), h.add (h.mul x3 z3) (h.mul t0 y3), h.add (h.mul t4 z3) (h.mul t3 t0)⟩
theorem crossT_rel {α β : Type} {O : Ops α} {O' : Ops β} {R : α -> β -> Prop} (h : O.Rel O' R) {P Q : α × α × α} {P' Q' : β × β × β} (hP : R3 R P P') (hQ : R3 R Q Q') : R3 R (crossT O P Q) (crossT O' P' Q') :=
  ⟨h.sub (h.mul hP.1 hQ.2.1) (h.mul hP.2.1 hQ.1), h.sub (h.mul hP.1 hQ.2.2) (h.mul hP.2.2 hQ.1), h.sub (h.mul hP.2.1 hQ.2.2) (h.mul hP.2.2 hQ.2.1)⟩
theorem ascT_rel {α β : Type} {O : Ops α} {O' : Ops β} {R : α -> β -> Prop} (h : O.Rel O' R) {b : α} {b' : β} (hb : R b b') {P Q S : α × α × α} {P' Q' S' : β × β × β} (hP : R3 R P P') (hQ : R3 R Q Q') (hS : R3 R S S') :
    R3 R (ascT O b P Q S) (ascT O' b' P' Q' S') :=
  crossT_rel h (rcb_rel h hb (rcb_rel h hb hP hQ) hS) (rcb_rel h hb hP (rcb_rel h hb hQ hS))
def up {α : Type} (O : Ops α) (a : α) : α × α := (a, O.zero)
def cub {α : Type} (O : Ops α) (b x : α) : α :=
  O.add (O.sub (O.mul (O.mul x x) x) (O.add (O.add x x) x)) b
abbrev T1 (α : Type) := α × α
abbrev T2 (α : Type) := (α × α) × (α × α)
abbrev T3 (α : Type) := ((α × α) × (α × α)) × ((α × α) × (α × α))
section
variable {α : Type} (O : Ops α) (v : Pt α)
def Q1 : Ops (T1 α) := O.quad (cub O v.b v.x1)
def Q2 : Ops (T2 α) := (Q1 O v).quad (up O (cub O v.b v.x2))
def Q3 : Ops (T3 α) := (Q2 O v).quad (up (Q1 O v) (up O (cub O v.b v.x3)))
def up3 (a : α) : T3 α := up (Q2 O v) (up (Q1 O v) (up O a))
def yy1 : T3 α := up (Q2 O v) (up (Q1 O v) (O.zero, O.one))
def yy2 : T3 α := up (Q2 O v) ((Q1 O v).zero, (Q1 O v).one)
def yy3 : T3 α := ((Q2 O v).zero, (Q2 O v).one)
def ascQ : T3 α × T3 α × T3 α :=
  ascT (Q3 O v) (up3 O v v.b) (up3 O v v.x1, yy1 O v, (Q3 O v).one) (up3 O v v.x2, yy2 O v, (Q3 O v).one) (up3 O v v.x3, yy3 O v, (Q3 O v).one)
end
section
variable {α β : Type} {O : Ops α} {O' : Ops β} {R : α -> β -> Prop} {v : Pt α} {v' : Pt β}
structure PtRel (R : α -> β -> Prop) (v : Pt α) (v' : Pt β) : Prop where
  x1 : R v.x1 v'.x1
  x2 : R v.x2 v'.x2
  x3 : R v.x3 v'.x3
  b : R v.b v'.b
theorem cub_rel (h : O.Rel O' R) {b x : α} {b' x' : β} (hb : R b b') (hx : R x x') : R (cub O b x) (cub O' b' x') :=
  h.add (h.sub (h.mul (h.mul hx hx) hx) (h.add (h.add hx hx) hx)) hb
def RQ (R : α -> β -> Prop) : α × α -> β × β -> Prop := fun a b => R a.1 b.1 /\ R a.2 b.2
theorem up_rel (h : O.Rel O' R) {a : α} {a' : β} (ha : R a a') : RQ R (up O a) (up O' a') := ⟨ha, h.zero⟩
theorem Q1_rel (h : O.Rel O' R) (hv : PtRel R v v') : (Q1 O v).Rel (Q1 O' v') (RQ R) := h.quad (cub_rel h hv.b hv.x1)
theorem Q2_rel (h : O.Rel O' R) (hv : PtRel R v v') : (Q2 O v).Rel (Q2 O' v') (RQ (RQ R)) := (Q1_rel h hv).quad (up_rel h (cub_rel h hv.b hv.x2))
theorem Q3_rel (h : O.Rel O' R) (hv : PtRel R v v') : (Q3 O v).Rel (Q3 O' v') (RQ (RQ (RQ R))) := (Q2_rel h hv).quad (up_rel (Q1_rel h hv) (up_rel h (cub_rel h hv.b hv.x3)))
theorem up3_rel (h : O.Rel O' R) (hv : PtRel R v v') {a : α} {a' : β} (ha : R a a') : RQ (RQ (RQ R)) (up3 O v a) (up3 O' v' a') :=
  up_rel (Q2_rel h hv) (up_rel (Q1_rel h hv) (up_rel h ha))
theorem ascQ_rel (h : O.Rel O' R) (hv : PtRel R v v') : R3 (RQ (RQ (RQ R))) (ascQ O v) (ascQ O' v') := by
  have h1 := Q1_rel h hv
  have h2 := Q2_rel h hv
  have h3 := Q3_rel h hv
  exact ascT_rel h3 (up3_rel h hv hv.b) ⟨up3_rel h hv hv.x1, up_rel h2 (up_rel h1 ⟨h.zero, h.one⟩), h3.one⟩
    ⟨up3_rel h hv hv.x2, up_rel h2 ⟨h1.zero, h1.one⟩, h3.one⟩ ⟨up3_rel h hv hv.x3, ⟨h2.zero, h2.one⟩, h3.one⟩
end
def vM : Pt MP := ⟨[(1, ⟨1, 0, 0, 0⟩)], [(1, ⟨0, 1, 0, 0⟩)], [(1, ⟨0, 0, 1, 0⟩)], [(1, ⟨0, 0, 0, 1⟩)]⟩
def δ1 : V4 := ⟨3, 0, 0, 1⟩
def δ2 : V4 := ⟨0, 3, 0, 1⟩
def δ3 : V4 := ⟨0, 0, 3, 1⟩
def BQ1 := BdQ δ1 BdM
def BQ2 := BdQ δ2 BQ1
def BQ3 := BdQ δ3 BQ2
theorem sum5 {a : MP} {v : V4} {N : Nat} (h : L1 a <= N) (h' : a.all (fun t => decide (2 * (t.2.e1 : Int) <= v.a) && decide (2 * (t.2.e2 : Int) <= v.b) && decide (2 * (t.2.e3 : Int) <= v.c) && decide (2 * (t.2.eb : Int) <= v.d)) = true) : BdM v N a := by
  refine ⟨h, fun t ht => ?_⟩
  have := List.all_eq_true.1 h' t ht
  simp only [Bool.and_eq_true, decide_eq_true_eq] at this
  exact ⟨this.1.1.1, this.1.1.2, this.1.2, this.2⟩
theorem bq1 : BdL (Q1 OM vM) 5 BQ1 := bdQ (F := 5) bdM (by decide) (by decide) (δ := δ1) (sum5 (by decide) (by decide))
theorem up_bd {α : Type} {O : Ops α} {K N : Nat} {Bd : V4 -> Nat -> α -> Prop} {v δ : V4} {a : α} (h : BdL O K Bd) (ha : Bd v N a) : BdQ δ Bd v N (up O a) := ⟨N, 0, by omega, ha, h.zero _⟩
theorem bq2 : BdL (Q2 OM vM) 125 BQ2 := bdQ (F := 5) bq1 (by decide) (by decide) (δ := δ2) (up_bd bdM (sum5 (by decide) (by decide)))
theorem bq3 : BdL (Q3 OM vM) 78125 BQ3 := bdQ (F := 5) bq2 (by decide) (by decide) (δ := δ3) (up_bd bq1 (up_bd bdM (sum5 (by decide) (by decide))))
def ascB : (V4 × Nat) × (V4 × Nat) × (V4 × Nat) :=
  ascT (OB 78125) (⟨0, 0, 0, 2⟩, 1) ((⟨2, 0, 0, 0⟩, 1), (⟨3, 0, 0, 1⟩, 1), (⟨0, 0, 0, 0⟩, 1)) ((⟨0, 2, 0, 0⟩, 1), (⟨0, 3, 0, 1⟩, 1), (⟨0, 0, 0, 0⟩, 1)) ((⟨0, 0, 2, 0⟩, 1), (⟨0, 0, 3, 1⟩, 1), (⟨0, 0, 0, 0⟩, 1))
theorem asc_bd : R3 (fun a (t : V4 × Nat) => BQ3 t.1 t.2 a) (ascQ OM vM) ascB := by
  have h1 : ∀ (a : MP) (v : V4), BdM v 1 a -> BQ3 v 1 (up3 OM vM a) := fun a v ha => up_bd bq2 (up_bd bq1 (up_bd bdM ha))
  have one : BQ3 ⟨0, 0, 0, 0⟩ 1 (Q3 OM vM).one := bq3.one
  refine ascT_rel bq3.rel (h1 _ _ (sum5 (by decide) (by decide))) ⟨h1 _ _ (sum5 (by decide) (by decide)), up_bd bq2 (up_bd bq1 ⟨0, 1, by decide, bdM.zero _, ?_⟩), one⟩
    ⟨h1 _ _ (sum5 (by decide) (by decide)), up_bd bq2 ⟨0, 1, by decide, bq1.zero _, ?_⟩, one⟩ ⟨h1 _ _ (sum5 (by decide) (by decide)), ⟨0, 1, by decide, bq2.zero _, ?_⟩, one⟩
  · exact sum5 (by decide) (by decide)
  · exact bq1.mono ⟨by decide, by decide, by decide, by decide⟩ (Nat.le_refl _) bq1.one
  · exact bq2.mono ⟨by decide, by decide, by decide, by decide⟩ (Nat.le_refl _) bq2.one
def all8 {α : Type} (P : α -> Prop) (a : T3 α) : Prop := ((P a.1.1.1 /\ P a.1.1.2) /\ (P a.1.2.1 /\ P a.1.2.2)) /\ ((P a.2.1.1 /\ P a.2.1.2) /\ (P a.2.2.1 /\ P a.2.2.2))
def all24 {α : Type} (P : α -> Prop) (a : T3 α × T3 α × T3 α) : Prop := all8 P a.1 /\ all8 P a.2.1 /\ all8 P a.2.2
theorem all8_imp {α : Type} {P P' : α -> Prop} (h : ∀ a, P a -> P' a) {a : T3 α} (ha : all8 P a) : all8 P' a :=
  ⟨⟨⟨h _ ha.1.1.1, h _ ha.1.1.2⟩, ⟨h _ ha.1.2.1, h _ ha.1.2.2⟩⟩, ⟨⟨h _ ha.2.1.1, h _ ha.2.1.2⟩, ⟨h _ ha.2.2.1, h _ ha.2.2.2⟩⟩⟩
theorem all8_and {α : Type} {P P' : α -> Prop} {a : T3 α} (ha : all8 P a) (hb : all8 P' a) : all8 (fun x => P x /\ P' x) a :=
  ⟨⟨⟨⟨ha.1.1.1, hb.1.1.1⟩, ⟨ha.1.1.2, hb.1.1.2⟩⟩, ⟨⟨ha.1.2.1, hb.1.2.1⟩, ⟨ha.1.2.2, hb.1.2.2⟩⟩⟩, ⟨⟨⟨ha.2.1.1, hb.2.1.1⟩, ⟨ha.2.1.2, hb.2.1.2⟩⟩, ⟨⟨ha.2.2.1, hb.2.2.1⟩, ⟨ha.2.2.2, hb.2.2.2⟩⟩⟩⟩
def Small (D1 D2 D3 N : Nat) (l : MP) : Prop := L1 l <= N /\ ∀ t ∈ l, t.2.e1 < D1 /\ t.2.e2 < D2 /\ t.2.e3 < D3
theorem small_of {D1 D2 D3 N M : Nat} {v w : V4} {l : MP} (h : BdM v N l) (hN : N <= M) (hv : v.le w) (ha : w.a < 2 * D1) (hb : w.b < 2 * D2) (hc : w.c < 2 * D3) : Small D1 D2 D3 M l :=
  ⟨by have := h.1; omega, fun t ht => by
    have := h.2 t ht
    unfold Mn.in V4.le at *
    omega⟩
theorem all8_small {D1 D2 D3 N : Nat} {v : V4} {a : T3 MP} (h : BQ3 v N a) (ha : v.a < 2 * D1) (hb : v.b < 2 * D2) (hc : v.c < 2 * D3) : all8 (Small D1 D2 D3 N) a := by
  obtain ⟨A, B, e, ⟨A1, B1, e1, ⟨A2, B2, e2, p1, p2⟩, ⟨A3, B3, e3, p3, p4⟩⟩, ⟨A4, B4, e4, ⟨A5, B5, e5, p5, p6⟩, ⟨A6, B6, e6, p7, p8⟩⟩⟩ := h
  have le : ∀ {w : V4}, w.le v ↔ w.le v := Iff.rfl
  refine ⟨⟨⟨small_of p1 (by omega) (V4.le_refl v) ha hb hc, small_of p2 (by omega) ?_ ha hb hc⟩, ⟨small_of p3 (by omega) ?_ ha hb hc, small_of p4 (by omega) ?_ ha hb hc⟩⟩,
    ⟨⟨small_of p5 (by omega) ?_ ha hb hc, small_of p6 (by omega) ?_ ha hb hc⟩, ⟨small_of p7 (by omega) ?_ ha hb hc, small_of p8 (by omega) ?_ ha hb hc⟩⟩⟩
  all_goals (simp only [V4.le, V4.sub, δ1, δ2, δ3]; omega)
def isZ (a : T3 Int) : Bool :=
  a.1.1.1 == 0 && a.1.1.2 == 0 && a.1.2.1 == 0 && a.1.2.2 == 0 && a.2.1.1 == 0 && a.2.1.2 == 0 && a.2.2.1 == 0 && a.2.2.2 == 0
theorem isZ_spec {a : T3 Int} (h : isZ a = true) : all8 (fun x => x = 0) a := by
  simp only [isZ, Bool.and_eq_true, beq_iff_eq] at h
  obtain ⟨⟨⟨⟨⟨⟨⟨a, b⟩, c⟩, d⟩, e⟩, f⟩, g⟩, i⟩ := h
  exact ⟨⟨⟨a, b⟩, ⟨c, d⟩⟩, ⟨⟨e, f⟩, ⟨g, i⟩⟩⟩
def ptK : Pt Int := ptKr (2 ^ 600) 10 13 10
def ascK : Bool :=
  let r := ascQ OI ptK
  isZ r.1 && isZ r.2.1 && isZ r.2.2
def bdOK (t : V4 × Nat) : Bool := decide (t.1.a < 2 * 10) && decide (t.1.b < 2 * 13) && decide (t.1.c < 2 * 10) && decide (2 * t.2 < 2 ^ 600)
theorem ascB_ok : bdOK ascB.1 && bdOK ascB.2.1 && bdOK ascB.2.2 = true := by kernel_rfl
theorem ascK_ok : ascK = true := by kernel_rfl
def E3 {p : Nat} [NeZero p] (v : Pt (Fin p)) (y1 y2 y3 : Fin p) (a : T3 MP) : Fin p :=
  ((MP.evF v a.1.1.1 + MP.evF v a.1.1.2 * y1) + (MP.evF v a.1.2.1 + MP.evF v a.1.2.2 * y1) * y2) + ((MP.evF v a.2.1.1 + MP.evF v a.2.1.2 * y1) + (MP.evF v a.2.2.1 + MP.evF v a.2.2.2 * y1) * y2) * y3
theorem lt_pow_cast {a k : Nat} (h : 2 * a < 2 ^ k) : 2 * (a : Int) < 2 ^ k := by
  have h2 : ((2 * a : Nat) : Int) < ((2 ^ k : Nat) : Int) := Int.ofNat_lt.2 h
  push_cast at h2
  exact h2
theorem asc_zero {p : Nat} [NeZero p] {b x1 y1 x2 y2 x3 y3 : Fin p} (h1 : y1 * y1 = cub (OF p) b x1) (h2 : y2 * y2 = cub (OF p) b x2) (h3 : y3 * y3 = cub (OF p) b x3) :
    ascT (OF p) b (x1, y1, 1) (x2, y2, 1) (x3, y3, 1) = (0, 0, 0) := by
  have hB := ascB_ok
  simp only [bdOK, Bool.and_eq_true, decide_eq_true_eq] at hB
  obtain ⟨⟨⟨⟨⟨a1, a2⟩, a3⟩, a4⟩, ⟨⟨⟨b1, b2⟩, b3⟩, b4⟩⟩, ⟨⟨⟨c1, c2⟩, c3⟩, c4⟩⟩ := hB
  have hK := ascK_ok
  simp only [ascK, Bool.and_eq_true] at hK
  obtain ⟨⟨k1, k2⟩, k3⟩ := hK
  have hv : PtRel (fun l a => MP.evI ptK l = a) vM ptK := ⟨by simp [vM, MP.evI, Mn.ev, Ops.pw, OI], by simp [vM, MP.evI, Mn.ev, Ops.pw, OI], by simp [vM, MP.evI, Mn.ev, Ops.pw, OI], by simp [vM, MP.evI, Mn.ev, Ops.pw, OI]⟩
  have hI := ascQ_rel (relI ptK) hv
  let v : Pt (Fin p) := ⟨x1, x2, x3, b⟩
  have part : ∀ {a : T3 MP} {r : T3 Int} {t : V4 × Nat}, BQ3 t.1 t.2 a -> t.1.a < 2 * 10 -> t.1.b < 2 * 13 -> t.1.c < 2 * 10 -> 2 * t.2 < 2 ^ 600 -> RQ (RQ (RQ fun l a => MP.evI ptK l = a)) a r -> isZ r = true -> all8 (fun l => MP.evF v l = 0) a := by
    intro a r t h ha hb hc hd hr hz
    have hs := all8_small (D1 := 10) (D2 := 13) (D3 := 10) h ha hb hc
    have hz' : all8 (fun l => MP.evI ptK l = 0) a := by
      have q := isZ_spec hz
      refine ⟨⟨⟨hr.1.1.1.trans q.1.1.1, hr.1.1.2.trans q.1.1.2⟩, ⟨hr.1.2.1.trans q.1.2.1, hr.1.2.2.trans q.1.2.2⟩⟩, ⟨⟨hr.2.1.1.trans q.2.1.1, hr.2.1.2.trans q.2.1.2⟩, ⟨hr.2.2.1.trans q.2.2.1, hr.2.2.2.trans q.2.2.2⟩⟩⟩
    refine all8_imp (fun l hl => ?_) (all8_and hs hz')
    have hN : 2 * (L1 l : Int) < 2 ^ 600 := by
      have h1 : 2 * L1 l < 2 ^ 600 := by have := hl.1.1; omega
      exact lt_pow_cast h1
    exact kron (B := 2 ^ 600) (D1 := 10) (D2 := 13) (D3 := 10) hN hl.1.2 hl.2 v
  obtain ⟨d1, d2, d3⟩ := asc_bd
  have z1 := part d1 a1 a2 a3 a4 hI.1 k1
  have z2 := part d2 b1 b2 b3 b4 hI.2.1 k2
  have z3 := part d3 c1 c2 c3 c4 hI.2.2 k3
  have e0 := relF v
  have ev : PtRel (fun l a => MP.evF v l = a) vM v := by
    refine ⟨?_, ?_, ?_, ?_⟩ <;> (simp only [vM, MP.evF, Mn.ev, Ops.pw, OF, zc_one, v]; grind)
  have f1 : MP.evF v (cub OM vM.b vM.x1) = cub (OF p) b x1 := cub_rel e0 ev.b ev.x1
  have f2 : MP.evF v (cub OM vM.b vM.x2) = cub (OF p) b x2 := cub_rel e0 ev.b ev.x2
  have f3 : MP.evF v (cub OM vM.b vM.x3) = cub (OF p) b x3 := cub_rel e0 ev.b ev.x3
  have e1 := e0.quadF (f := cub OM vM.b vM.x1) (y := y1) (by rw [f1]; exact h1)
  have upF : ∀ {α : Type} {O : Ops α} {e : α -> Fin p} {y : Fin p}, O.Rel (OF p) (fun l a => e l = a) -> ∀ (a : α), e (up O a).1 + e (up O a).2 * y = e a := fun {α O e y} h a => by
    show e a + e O.zero * y = e a
    rw [h.zero]; simp only [OF]; grind
  have e2 := e1.quadF (f := up OM (cub OM vM.b vM.x2)) (y := y2) (by rw [upF e0, f2]; exact h2)
  have e3 := e2.quadF (f := up (Q1 OM vM) (up OM (cub OM vM.b vM.x3))) (y := y3) (by
    have := upF (y := y2) e1 (up OM (cub OM vM.b vM.x3))
    refine Eq.trans ?_ this.symm
    rw [upF e0, f3]; exact h3)
  have u3 : ∀ (a : MP) (r : Fin p), MP.evF v a = r -> E3 v y1 y2 y3 (up3 OM vM a) = r := fun a r h => ((upF e2 _).trans ((upF e1 _).trans (upF e0 a))).trans h
  have one3 := e3.one
  have g1 := (upF (y := y3) e2 (up (Q1 OM vM) (OM.zero, OM.one))).trans (upF (y := y2) e1 (OM.zero, OM.one))
  have e3 : (Q3 OM vM).Rel (OF p) (fun l a => E3 v y1 y2 y3 l = a) := e3
  have hT := ascT_rel e3 (u3 _ _ ev.b) (P := (up3 OM vM vM.x1, yy1 OM vM, (Q3 OM vM).one)) (P' := (x1, y1, 1)) (Q := (up3 OM vM vM.x2, yy2 OM vM, (Q3 OM vM).one)) (Q' := (x2, y2, 1))
    (S := (up3 OM vM vM.x3, yy3 OM vM, (Q3 OM vM).one)) (S' := (x3, y3, 1)) ⟨u3 _ _ ev.x1, ?_, one3⟩ ⟨u3 _ _ ev.x2, ?_, one3⟩ ⟨u3 _ _ ev.x3, ?_, one3⟩
  · obtain ⟨t1, t2, t3⟩ := hT
    have zz : ∀ {a : T3 MP}, all8 (fun l => MP.evF v l = 0) a -> E3 v y1 y2 y3 a = 0 := fun {a} h => by
      unfold E3
      rw [h.1.1.1, h.1.1.2, h.1.2.1, h.1.2.2, h.2.1.1, h.2.1.2, h.2.2.1, h.2.2.2]; grind
    have q1 := (zz z1).symm.trans t1
    have q2 := (zz z2).symm.trans t2
    have q3 := (zz z3).symm.trans t3
    exact Prod.ext q1.symm (Prod.ext q2.symm q3.symm)
  · refine g1.trans ?_
    show MP.evF v OM.zero + MP.evF v OM.one * y1 = y1
    rw [e0.zero, e0.one]; simp only [OF]; grind
  · refine (upF (y := y3) e2 ((Q1 OM vM).zero, (Q1 OM vM).one)).trans ?_
    have a0 := e1.zero
    have a1 := e1.one
    show (MP.evF v (Q1 OM vM).zero.1 + MP.evF v (Q1 OM vM).zero.2 * y1) + (MP.evF v (Q1 OM vM).one.1 + MP.evF v (Q1 OM vM).one.2 * y1) * y2 = y2
    refine Eq.trans (congr (congrArg (fun (s t : Fin p) => s + t) a0) (congrArg (fun t : Fin p => t * y2) a1)) ?_
    simp only [OF]; grind
  · have a0 := e2.zero
    have a1 := e2.one
    have q := congr (congrArg (fun (s t : Fin p) => s + t) a0) (congrArg (fun t : Fin p => t * y3) a1)
    refine Eq.trans (b := (OF p).zero + (OF p).one * y3) q ?_
    simp only [OF]; grind
section
variable {p : Nat} [NeZero p]
def cu (b x : Fin p) : Fin p := x * x * x - (x + x + x) + b
theorem clo {b x1 y1 x2 y2 : Fin p} (h1 : y1 * y1 = cu b x1) (h2 : y2 * y2 = cu b x2) :
   let T := rcb (OF p) b (x1, y1, 1) (x2, y2, 1)
   T.2.1 * T.2.1 * T.2.2 = T.1 * T.1 * T.1 - (T.1 * T.2.2 * T.2.2 + T.1 * T.2.2 * T.2.2 + T.1 * T.2.2 * T.2.2) + b * T.2.2 * T.2.2 * T.2.2 := by
  intro T
  simp only [T, rcb, OF, cu] at *
  grobner
theorem mul_zero_iff (hp : Pr p) {a b : Fin p} (h : a * b = 0) : a = 0 \/ b = 0 := by
  have h1 : (a.val * b.val) % p = 0 := by
    have := congrArg Fin.val h
    rwa [Fin.val_mul] at this
  rcases hp.dvd_mul (Nat.dvd_of_mod_eq_zero h1) with h | h
  · left; apply Fin.ext; exact Nat.eq_zero_of_dvd_of_lt h a.isLt
  · right; apply Fin.ext; exact Nat.eq_zero_of_dvd_of_lt h b.isLt
theorem mul_ne (hp : Pr p) {a b : Fin p} (ha : a ≠ 0) (hb : b ≠ 0) : a * b ≠ 0 := fun h => by
  rcases mul_zero_iff hp h with h | h
  · exact ha h
  · exact hb h
theorem pwF_val (a : Fin p) (n : Nat) : ((OF p).pw a n).val = a.val ^ n % p := by
  induction n with
  | zero => rfl
  | succ n ih =>
    show (a * (OF p).pw a n).val = _
    rw [Fin.val_mul, ih, Nat.mul_mod_mod, Nat.pow_succ, Nat.mul_comm]
def finv (a : Fin p) : Fin p := (OF p).pw a (p - 2)
theorem mul_finv (hp : Pr p) {a : Fin p} (ha : a ≠ 0) : a * finv a = 1 := by
  have hnd : ¬ p ∣ a.val := fun h => ha (Fin.ext (Nat.eq_zero_of_dvd_of_lt h a.isLt))
  have hf := fermat hp hnd
  have h2 := hp.1
  apply Fin.ext
  have e : a * finv a = (OF p).pw a (p - 1) := by
    rw [show p - 1 = (p - 2) + 1 by omega]; rfl
  rw [e, pwF_val, hf]
  show 1 = 1 % p
  rw [Nat.mod_eq_of_lt (by omega)]
theorem one_ne (hp : Pr p) : (1 : Fin p) ≠ 0 := fun h => by
  have := congrArg Fin.val h
  have h2 := hp.1
  have e1 : (1 : Fin p).val = 1 % p := rfl
  have e0 : (0 : Fin p).val = 0 := rfl
  rw [e1, e0, Nat.mod_eq_of_lt (by omega)] at this
  omega
theorem ne_of_mul_ne {a b : Fin p} (h : a * b ≠ 0) : a ≠ 0 := fun e => h (by rw [e]; grind)
theorem cancel_l (hp : Pr p) {a b c : Fin p} (ha : a ≠ 0) (h : a * b = a * c) : b = c := by
  have := mul_finv hp ha
  generalize finv a = i at this
  grobner
theorem cancel_z (hp : Pr p) {a b : Fin p} (ha : a ≠ 0) (h : a * b = 0) : b = 0 := by
  rcases mul_zero_iff hp h with h | h
  · exact absurd h ha
  · exact h
abbrev G (p : Nat) := Option (Fin p × Fin p)
def onG (b : Fin p) : G p -> Prop
  | none => True
  | some t => t.2 * t.2 = cu b t.1
def lift : G p -> Fin p × Fin p × Fin p
  | none => (0, 1, 0)
  | some t => (t.1, t.2, 1)
def Rep (T : Fin p × Fin p × Fin p) (g : G p) : Prop := ∃ l, l ≠ 0 /\ T.1 = l * (lift g).1 /\ T.2.1 = l * (lift g).2.1 /\ T.2.2 = l * (lift g).2.2
def aff (T : Fin p × Fin p × Fin p) : G p := if T.2.2 = 0 then none else some (T.1 * finv T.2.2, T.2.1 * finv T.2.2)
theorem Rep.aff_eq (hp : Pr p) {T : Fin p × Fin p × Fin p} {g : G p} (h : Rep T g) : aff T = g := by
  obtain ⟨l, h0, h1, h2, h3⟩ := h
  cases g with
  | none =>
    simp only [lift] at h3
    unfold aff
    rw [if_pos (by rw [h3]; grind)]
  | some t =>
    simp only [lift] at h1 h2 h3
    have hz : T.2.2 = l := by rw [h3]; grind
    unfold aff
    rw [if_neg (by rw [hz]; exact h0), hz, h1, h2]
    have := mul_finv hp h0
    generalize finv l = i at this
    congr 1
    refine Prod.ext ?_ ?_
    · show l * t.1 * i = t.1; grobner
    · show l * t.2 * i = t.2; grobner
theorem Rep.inj (hp : Pr p) {T : Fin p × Fin p × Fin p} {g h : G p} (h1 : Rep T g) (h2 : Rep T h) : g = h := (h1.aff_eq hp).symm.trans (h2.aff_eq hp)
theorem rep_lift (hp : Pr p) (g : G p) : Rep (lift g) g := ⟨1, one_ne hp, by grind, by grind, by grind⟩
theorem rep_cross (hp : Pr p) {T U : Fin p × Fin p × Fin p} {g h : G p} (h1 : Rep T g) (h2 : Rep U h) (hc : crossT (OF p) T U = (0, 0, 0)) : g = h := by
  obtain ⟨l, l0, a1, a2, a3⟩ := h1
  obtain ⟨m, m0, b1, b2, b3⟩ := h2
  have c1 : T.1 * U.2.1 - T.2.1 * U.1 = 0 := congrArg Prod.fst hc
  have c2 : T.1 * U.2.2 - T.2.2 * U.1 = 0 := congrArg (fun x => x.2.1) hc
  have c3 : T.2.1 * U.2.2 - T.2.2 * U.2.1 = 0 := congrArg (fun x => x.2.2) hc
  rw [a1, a2, b1, b2] at c1
  rw [a1, a3, b1, b3] at c2
  rw [a2, a3, b2, b3] at c3
  have hlm := mul_ne hp l0 m0
  cases g with
  | none =>
    cases h with
    | none => rfl
    | some t =>
      simp only [lift] at c3
      exact absurd (by grobner : l * m = 0) hlm
  | some s =>
    cases h with
    | none =>
      simp only [lift] at c3
      exact absurd (by grobner : l * m = 0) hlm
    | some t =>
      simp only [lift] at c2 c3
      have e1 : s.1 = t.1 := cancel_l hp hlm (by grobner)
      have e2 : s.2 = t.2 := cancel_l hp hlm (by grobner)
      rw [show s = t from Prod.ext e1 e2]
structure Cv (p : Nat) [NeZero p] (b : Fin p) : Prop where
  pr : Pr p
  two : (1 + 1 : Fin p) ≠ 0
  root : ∀ x, cu b x ≠ 0
variable {b : Fin p}
theorem Cv.y_ne (h : Cv p b) {t : Fin p × Fin p} (ht : onG b (some t)) : t.2 ≠ 0 := fun e => by
  have ht : t.2 * t.2 = cu b t.1 := ht
  rw [e] at ht
  exact h.root t.1 (by rw [<- ht]; grind)
theorem rep_of_closed (h : Cv p b) {T : Fin p × Fin p × Fin p} (hz : T.2.2 ≠ 0)
    (hc : T.2.1 * T.2.1 * T.2.2 = T.1 * T.1 * T.1 - (T.1 * T.2.2 * T.2.2 + T.1 * T.2.2 * T.2.2 + T.1 * T.2.2 * T.2.2) + b * T.2.2 * T.2.2 * T.2.2) : ∃ k, onG b k /\ Rep T k := by
  have hi := mul_finv h.pr hz
  obtain ⟨X, Y, Z⟩ := T
  simp only at hz hc hi
  generalize finv Z = i at hi
  refine ⟨some (X * i, Y * i), ?_, Z, hz, ?_, ?_, ?_⟩
  · show Y * i * (Y * i) = cu b (X * i)
    unfold cu
    grobner
  · show X = Z * (X * i); grobner
  · show Y = Z * (Y * i); grobner
  · show Z = Z * 1; grobner
theorem chord_ne (h : Cv p b) {x1 y1 x2 y2 : Fin p} (h1 : y1 * y1 = cu b x1) (h2 : y2 * y2 = cu b x2) (hd : x2 - x1 ≠ 0) :
    (y2 - y1) * (x1 * (x2 - x1) * (x2 - x1) - ((y2 - y1) * (y2 - y1) - (x1 + x2) * (x2 - x1) * (x2 - x1))) - y1 * (x2 - x1) * (x2 - x1) * (x2 - x1) ≠ 0 := fun e => by
  have hi := mul_finv h.pr hd
  generalize finv (x2 - x1) = i at hi
  refine h.root (((y2 - y1) * (y2 - y1) - (x1 + x2) * (x2 - x1) * (x2 - x1)) * (i * i)) ?_
  generalize hD : x2 - x1 = d at *
  obtain rfl : x2 = x1 + d := by grobner
  have key : ((y2 - y1) * (y2 - y1) - (x1 + (x1 + d)) * d * d) * ((y2 - y1) * (y2 - y1) - (x1 + (x1 + d)) * d * d) * ((y2 - y1) * (y2 - y1) - (x1 + (x1 + d)) * d * d)
      - (((y2 - y1) * (y2 - y1) - (x1 + (x1 + d)) * d * d) + ((y2 - y1) * (y2 - y1) - (x1 + (x1 + d)) * d * d) + ((y2 - y1) * (y2 - y1) - (x1 + (x1 + d)) * d * d)) * d * d * d * d + b * d * d * d * d * d * d
      = ((y2 - y1) * (x1 * d * d - ((y2 - y1) * (y2 - y1) - (x1 + (x1 + d)) * d * d)) - y1 * d * d * d) * ((y2 - y1) * (x1 * d * d - ((y2 - y1) * (y2 - y1) - (x1 + (x1 + d)) * d * d)) - y1 * d * d * d) := by
    clear e hi
    unfold cu at h1 h2
    grobner
  rw [e] at key
  generalize ((y2 - y1) * (y2 - y1) - (x1 + (x1 + d)) * d * d) = N at key
  clear h1 h2 e
  unfold cu
  have e2 : d * d * i * i = 1 := by grobner
  have : (N * N * N - (N + N + N) * d * d * d * d + b * d * d * d * d * d * d) * (i * i) * (i * i) * (i * i) = 0 := by rw [key]; grobner
  grobner
end
section
variable {p : Nat} [NeZero p] {b : Fin p}
theorem rcb_none (x y : Fin p) : rcb (OF p) b (0, 1, 0) (x, y, 1) = (y * x, y * y, y * 1) := by
  simp only [rcb, OF]
  refine Prod.ext ?_ (Prod.ext ?_ ?_) <;> simp only <;> grobner
theorem rcb_none_none : rcb (OF p) b (0, 1, 0) (0, 1, 0) = (0, 1, 0) := by
  simp only [rcb, OF]
  refine Prod.ext ?_ (Prod.ext ?_ ?_) <;> simp only <;> grobner
theorem rcb_comm (T U : Fin p × Fin p × Fin p) : rcb (OF p) b T U = rcb (OF p) b U T := by
  obtain ⟨X, Y, Z⟩ := T
  obtain ⟨X', Y', Z'⟩ := U
  simp only [rcb, OF]
  refine Prod.ext ?_ (Prod.ext ?_ ?_) <;> simp only <;> grobner
theorem rcb_scale (l m X Y Z X' Y' Z' : Fin p) : rcb (OF p) b (l * X, l * Y, l * Z) (m * X', m * Y', m * Z') =
    (l * l * m * m * (rcb (OF p) b (X, Y, Z) (X', Y', Z')).1, l * l * m * m * (rcb (OF p) b (X, Y, Z) (X', Y', Z')).2.1, l * l * m * m * (rcb (OF p) b (X, Y, Z) (X', Y', Z')).2.2) := by
  simp only [rcb, OF]
  refine Prod.ext ?_ (Prod.ext ?_ ?_) <;> simp only <;> grobner
theorem z_chord {x1 y1 x2 y2 : Fin p} (h1 : y1 * y1 = cu b x1) (h2 : y2 * y2 = cu b x2) :
    (rcb (OF p) b (x1, y1, 1) (x2, y2, 1)).2.2 = (-y2 - y1) * (x1 * (x2 - x1) * (x2 - x1) - ((-y2 - y1) * (-y2 - y1) - (x1 + x2) * (x2 - x1) * (x2 - x1))) - y1 * (x2 - x1) * (x2 - x1) * (x2 - x1) := by
  simp only [rcb, OF, cu] at *
  grobner
theorem x_chord {x1 y1 x2 y2 : Fin p} (h1 : y1 * y1 = cu b x1) (h2 : y2 * y2 = cu b x2) :
    (rcb (OF p) b (x1, y1, 1) (x2, y2, 1)).1 * ((x2 - x1) * (x2 - x1)) = ((y2 - y1) * (y2 - y1) - (x1 + x2) * (x2 - x1) * (x2 - x1)) * (rcb (OF p) b (x1, y1, 1) (x2, y2, 1)).2.2 := by
  simp only [rcb, OF, cu] at *
  grobner
theorem y_chord {x1 y1 x2 y2 : Fin p} (h1 : y1 * y1 = cu b x1) (h2 : y2 * y2 = cu b x2) :
    (rcb (OF p) b (x1, y1, 1) (x2, y2, 1)).2.1 * ((x2 - x1) * (x2 - x1) * (x2 - x1)) =
      ((y2 - y1) * (x1 * (x2 - x1) * (x2 - x1) - ((y2 - y1) * (y2 - y1) - (x1 + x2) * (x2 - x1) * (x2 - x1))) - y1 * (x2 - x1) * (x2 - x1) * (x2 - x1)) * (rcb (OF p) b (x1, y1, 1) (x2, y2, 1)).2.2 := by
  simp only [rcb, OF, cu] at *
  grobner
def tanY (x y : Fin p) : Fin p :=
  let n := x * x + x * x + x * x - (1 + 1 + 1)
  let d := y + y
  n * (x * d * d - (n * n - (x + x) * d * d)) - y * d * d * d
theorem opp_rcb {x y : Fin p} (h1 : y * y = cu b x) : rcb (OF p) b (x, y, 1) (x, -y, 1) = (0, tanY x y, 0) := by
  simp only [rcb, OF, cu, tanY] at *
  refine Prod.ext ?_ (Prod.ext ?_ ?_) <;> simp only <;> grobner
theorem tan_rcb {x y : Fin p} (h1 : y * y = cu b x) :
    (rcb (OF p) b (x, y, 1) (x, y, 1)).2.2 = (y + y) * (y + y) * (y + y) /\
    (rcb (OF p) b (x, y, 1) (x, y, 1)).1 = ((x * x + x * x + x * x - (1 + 1 + 1)) * (x * x + x * x + x * x - (1 + 1 + 1)) - (x + x) * (y + y) * (y + y)) * (y + y) /\
    (rcb (OF p) b (x, y, 1) (x, y, 1)).2.1 = tanY x y := by
  simp only [rcb, OF, cu, tanY] at *
  refine ⟨?_, ?_, ?_⟩ <;> grobner
theorem tanY_ne (h : Cv p b) {x y : Fin p} (h1 : y * y = cu b x) : tanY x y ≠ 0 := fun e => by
  have hy : y ≠ 0 := h.y_ne (t := (x, y)) h1
  have hd : y + y ≠ 0 := by
    have := mul_ne h.pr h.two hy
    intro e
    apply this
    grobner
  have hi := mul_finv h.pr hd
  generalize finv (y + y) = i at hi
  refine h.root (((x * x + x * x + x * x - (1 + 1 + 1)) * (x * x + x * x + x * x - (1 + 1 + 1)) - (x + x) * (y + y) * (y + y)) * (i * i)) ?_
  unfold tanY at e
  simp only at e
  generalize hN : (x * x + x * x + x * x - (1 + 1 + 1)) * (x * x + x * x + x * x - (1 + 1 + 1)) - (x + x) * (y + y) * (y + y) = N at *
  have key : N * N * N - (N + N + N) * (y + y) * (y + y) * (y + y) * (y + y) + b * (y + y) * (y + y) * (y + y) * (y + y) * (y + y) * (y + y) = 0 := by
    have : N * N * N - (N + N + N) * (y + y) * (y + y) * (y + y) * (y + y) + b * (y + y) * (y + y) * (y + y) * (y + y) * (y + y) * (y + y) =
        ((x * x + x * x + x * x - (1 + 1 + 1)) * (x * (y + y) * (y + y) - N) - y * (y + y) * (y + y) * (y + y)) * ((x * x + x * x + x * x - (1 + 1 + 1)) * (x * (y + y) * (y + y) - N) - y * (y + y) * (y + y) * (y + y)) := by
      clear e hi
      unfold cu at h1
      subst hN
      grobner
    rw [this, e]; grobner
  clear h1 hN e
  generalize y + y = d at *
  unfold cu
  have e2 : d * d * i * i = 1 := by grobner
  have : (N * N * N - (N + N + N) * d * d * d * d + b * d * d * d * d * d * d) * (i * i) * (i * i) * (i * i) = 0 := by rw [key]; grobner
  grobner
theorem sum_ex (h : Cv p b) : ∀ {g k : G p}, onG b g -> onG b k -> ∃ m, onG b m /\ Rep (rcb (OF p) b (lift g) (lift k)) m
  | none, none, _, _ => ⟨none, trivial, by rw [show lift (none : G p) = (0, 1, 0) from rfl, rcb_none_none]; exact rep_lift h.pr none⟩
  | none, some t, _, ht => ⟨some t, ht, t.2, h.y_ne ht, by
    rw [show lift (none : G p) = (0, 1, 0) from rfl, show lift (some t) = (t.1, t.2, 1) from rfl, rcb_none]; exact ⟨rfl, rfl, rfl⟩⟩
  | some t, none, ht, _ => ⟨some t, ht, t.2, h.y_ne ht, by
    rw [rcb_comm, show lift (none : G p) = (0, 1, 0) from rfl, show lift (some t) = (t.1, t.2, 1) from rfl, rcb_none]; exact ⟨rfl, rfl, rfl⟩⟩
  | some (x1, y1), some (x2, y2), h1, h2 => by
    have h1' : y1 * y1 = cu b x1 := h1
    have h2' : y2 * y2 = cu b x2 := h2
    show ∃ m, onG b m /\ Rep (rcb (OF p) b (x1, y1, 1) (x2, y2, 1)) m
    by_cases hx : x2 - x1 = 0
    · obtain rfl : x2 = x1 := by grobner
      rcases mul_zero_iff h.pr (show (y2 - y1) * (y2 + y1) = 0 by grobner) with e | e
      · obtain rfl : y2 = y1 := by grobner
        refine rep_of_closed h ?_ (clo h1' h2')
        rw [(tan_rcb h1').1]
        have hy : y2 ≠ 0 := h.y_ne h1
        have hd : y2 + y2 ≠ 0 := by
          have := mul_ne h.pr h.two hy
          intro e
          apply this
          grobner
        exact mul_ne h.pr (mul_ne h.pr hd hd) hd
      · obtain rfl : y2 = -y1 := by grobner
        rw [opp_rcb h1']
        exact ⟨none, trivial, tanY x2 y1, tanY_ne h h1', by simp [lift]; grind, by simp [lift]; grind, by simp [lift]; grind⟩
    · refine rep_of_closed h ?_ (clo h1' h2')
      rw [z_chord h1' h2']
      exact chord_ne h h1' (show -y2 * -y2 = cu b x2 by rw [<- h2']; grind) hx
def gadd (b : Fin p) (g k : G p) : G p := aff (rcb (OF p) b (lift g) (lift k))
theorem gadd_spec (h : Cv p b) {g k : G p} (hg : onG b g) (hk : onG b k) : onG b (gadd b g k) /\ Rep (rcb (OF p) b (lift g) (lift k)) (gadd b g k) := by
  obtain ⟨m, h1, h2⟩ := sum_ex h hg hk
  have : gadd b g k = m := h2.aff_eq h.pr
  rw [this]; exact ⟨h1, h2⟩
theorem gadd_on (h : Cv p b) {g k : G p} (hg : onG b g) (hk : onG b k) : onG b (gadd b g k) := (gadd_spec h hg hk).1
theorem gadd_comm (g k : G p) : gadd b g k = gadd b k g := by unfold gadd; rw [rcb_comm]
theorem rep_add (h : Cv p b) {T U : Fin p × Fin p × Fin p} {g k : G p} (hg : onG b g) (hk : onG b k) (hT : Rep T g) (hU : Rep U k) : Rep (rcb (OF p) b T U) (gadd b g k) := by
  obtain ⟨l, l0, a1, a2, a3⟩ := hT
  obtain ⟨m, m0, b1, b2, b3⟩ := hU
  obtain ⟨n, n0, c1, c2, c3⟩ := (gadd_spec h hg hk).2
  have e : rcb (OF p) b T U = rcb (OF p) b (l * (lift g).1, l * (lift g).2.1, l * (lift g).2.2) (m * (lift k).1, m * (lift k).2.1, m * (lift k).2.2) := by
    rw [<- a1, <- a2, <- a3, <- b1, <- b2, <- b3]
  rw [e, rcb_scale]
  have e1 : rcb (OF p) b ((lift g).1, (lift g).2.1, (lift g).2.2) ((lift k).1, (lift k).2.1, (lift k).2.2) = rcb (OF p) b (lift g) (lift k) := rfl
  rw [e1, c1, c2, c3]
  exact ⟨l * l * m * m * n, mul_ne h.pr (mul_ne h.pr (mul_ne h.pr (mul_ne h.pr l0 l0) m0) m0) n0, by grind, by grind, by grind⟩
theorem gadd_none (h : Cv p b) {g : G p} (hg : onG b g) : gadd b none g = g := by
  refine Rep.aff_eq h.pr ?_
  cases g with
  | none => rw [show lift (none : G p) = (0, 1, 0) from rfl, rcb_none_none]; exact rep_lift h.pr none
  | some t => exact ⟨t.2, h.y_ne hg, by rw [show lift (none : G p) = (0, 1, 0) from rfl, show lift (some t) = (t.1, t.2, 1) from rfl, rcb_none]; exact ⟨rfl, rfl, rfl⟩⟩
theorem gadd_none' (h : Cv p b) {g : G p} (hg : onG b g) : gadd b g none = g := by rw [gadd_comm]; exact gadd_none h hg
theorem gadd_assoc (h : Cv p b) {g k m : G p} (hg : onG b g) (hk : onG b k) (hm : onG b m) : gadd b (gadd b g k) m = gadd b g (gadd b k m) := by
  cases g with
  | none => rw [gadd_none h hk, gadd_none h (gadd_on h hk hm)]
  | some s =>
    cases k with
    | none => rw [gadd_none' h hg, gadd_none h hm]
    | some t =>
      cases m with
      | none => rw [gadd_none' h (gadd_on h hg hk), gadd_none' h hk]
      | some u =>
        have r1 := rep_add h (gadd_on h hg hk) hm (gadd_spec h hg hk).2 (rep_lift h.pr _)
        have r2 := rep_add h hg (gadd_on h hk hm) (rep_lift h.pr _) (gadd_spec h hk hm).2
        exact rep_cross h.pr r1 r2 (asc_zero (x1 := s.1) (y1 := s.2) (x2 := t.1) (y2 := t.2) (x3 := u.1) (y3 := u.2) hg hk hm)
theorem gadd_chord (h : Cv p b) {x1 y1 x2 y2 s : Fin p} (h1 : y1 * y1 = cu b x1) (h2 : y2 * y2 = cu b x2) (hd : x2 - x1 ≠ 0) (hs : s * (x2 - x1) = y2 - y1) :
    gadd b (some (x1, y1)) (some (x2, y2)) = some (s * s - x1 - x2, s * (x1 - (s * s - x1 - x2)) - y1) := by
  refine Rep.aff_eq h.pr ?_
  show Rep (rcb (OF p) b (x1, y1, 1) (x2, y2, 1)) _
  have hz : (rcb (OF p) b (x1, y1, 1) (x2, y2, 1)).2.2 ≠ 0 := by
    rw [z_chord h1 h2]
    exact chord_ne h h1 (show -y2 * -y2 = cu b x2 by rw [<- h2]; grind) hd
  have ex := x_chord h1 h2
  have ey := y_chord h1 h2
  refine ⟨_, hz, ?_, ?_, ?_⟩
  · refine cancel_l h.pr (mul_ne h.pr hd hd) ?_
    rw [Fin.mul_comm _ (rcb (OF p) b (x1, y1, 1) (x2, y2, 1)).1, ex, <- hs]
    simp only [lift]
    generalize (rcb (OF p) b (x1, y1, 1) (x2, y2, 1)).2.2 = Z
    grobner
  · refine cancel_l h.pr (mul_ne h.pr (mul_ne h.pr hd hd) hd) ?_
    rw [Fin.mul_comm _ (rcb (OF p) b (x1, y1, 1) (x2, y2, 1)).2.1, ey, <- hs]
    simp only [lift]
    generalize (rcb (OF p) b (x1, y1, 1) (x2, y2, 1)).2.2 = Z
    grobner
  · simp only [lift]; grind
theorem gadd_tangent (h : Cv p b) {x y s : Fin p} (h1 : y * y = cu b x) (hs : s * (y + y) = x * x + x * x + x * x - (1 + 1 + 1)) :
    gadd b (some (x, y)) (some (x, y)) = some (s * s - x - x, s * (x - (s * s - x - x)) - y) := by
  refine Rep.aff_eq h.pr ?_
  show Rep (rcb (OF p) b (x, y, 1) (x, y, 1)) _
  obtain ⟨ez, ex, ey⟩ := tan_rcb h1
  have hy : y ≠ 0 := h.y_ne (t := (x, y)) h1
  have hd : y + y ≠ 0 := by
    have := mul_ne h.pr h.two hy
    intro e
    apply this
    grobner
  refine ⟨(y + y) * (y + y) * (y + y), mul_ne h.pr (mul_ne h.pr hd hd) hd, ?_, ?_, ?_⟩
  · rw [ex, <- hs]
    simp only [lift]
    grobner
  · rw [ey]
    unfold tanY
    simp only [lift]
    rw [<- hs]
    grobner
  · rw [ez]; simp only [lift]; grobner
theorem gadd_opp (h : Cv p b) {x y : Fin p} (h1 : y * y = cu b x) : gadd b (some (x, y)) (some (x, -y)) = none := by
  refine Rep.aff_eq h.pr ?_
  show Rep (rcb (OF p) b (x, y, 1) (x, -y, 1)) _
  rw [opp_rcb h1]
  exact ⟨tanY x y, tanY_ne h h1, by simp [lift]; grind, by simp [lift]; grind, by simp [lift]; grind⟩
def gmul (b : Fin p) : Nat -> G p -> G p
  | 0, _ => none
  | n + 1, g => gadd b (gmul b n g) g
theorem gmul_on (h : Cv p b) {g : G p} (hg : onG b g) : ∀ n, onG b (gmul b n g)
  | 0 => trivial
  | n + 1 => gadd_on h (gmul_on h hg n) hg
theorem gmul_one (h : Cv p b) {g : G p} (hg : onG b g) : gmul b 1 g = g := gadd_none h hg
theorem gmul_add (h : Cv p b) {g : G p} (hg : onG b g) (m : Nat) : ∀ n, gmul b (m + n) g = gadd b (gmul b m g) (gmul b n g)
  | 0 => (gadd_none' h (gmul_on h hg m)).symm
  | n + 1 => by
    show gadd b (gmul b (m + n) g) g = gadd b (gmul b m g) (gadd b (gmul b n g) g)
    rw [gmul_add h hg m n, gadd_assoc h (gmul_on h hg m) (gmul_on h hg n) hg]
theorem gmul_two (h : Cv p b) {g : G p} (hg : onG b g) (m : Nat) : gmul b (2 * m) g = gadd b (gmul b m g) (gmul b m g) := by
  rw [Nat.two_mul, gmul_add h hg]
theorem gmul_mul (h : Cv p b) {g : G p} (hg : onG b g) (m : Nat) : ∀ n, gmul b (m * n) g = gmul b n (gmul b m g)
  | 0 => rfl
  | n + 1 => by
    rw [Nat.mul_succ, gmul_add h hg, gmul_mul h hg m n]; rfl
end
section
variable {p : Nat} [NeZero p]
structure Tr3 where
  a : Int
  b : Int
  c : Int
def Tr3.val (t : Tr3) (x : Fin p) : Fin p := zc t.a * (x * x) + zc t.b * x + zc t.c
def Tr3.mul (m k : Int) (s t : Tr3) : Tr3 :=
  let c4 := s.a * t.a
  let c3 := s.a * t.b + s.b * t.a
  ⟨(s.a * t.c + s.b * t.b + s.c * t.a + 3 * c4) % m, (s.b * t.c + s.c * t.b - k * c4 + 3 * c3) % m, (s.c * t.c - k * c3) % m⟩
def pwT (m k : Int) : Nat -> Nat -> Tr3
  | 0, _ => ⟨0, 0, 1⟩
  | f + 1, e => if e = 0 then ⟨0, 0, 1⟩ else
    let h := pwT m k f (e / 2)
    if e % 2 = 1 then Tr3.mul m k (Tr3.mul m k h h) ⟨0, 1, 0⟩ else Tr3.mul m k h h
theorem zc_mod (a : Int) : (zc (a % p) : Fin p) = zc a := zc_eq (Int.emod_emod_of_dvd a (Int.dvd_refl _))
theorem zc_three : (zc 3 : Fin p) = 1 + 1 + 1 := by
  rw [show (3 : Int) = 1 + 1 + 1 by rfl, zc_add, zc_add, zc_one]
theorem mul_val {k : Int} {x : Fin p} (hx : cu (zc k) x = 0) (s t : Tr3) : (Tr3.mul p k s t).val x = s.val x * t.val x := by
  unfold cu at hx
  simp only [Tr3.val, Tr3.mul, zc_mod, zc_add, zc_mul, zc_sub, zc_three]
  grobner
theorem pwT_val {k : Int} {x : Fin p} (hx : cu (zc k) x = 0) : ∀ (f e : Nat), e < 2 ^ f -> (pwT p k f e).val x = (OF p).pw x e
  | 0, e, h => by
    obtain rfl : e = 0 := by simpa using h
    simp only [pwT, Tr3.val, zc_zero, zc_one, Ops.pw, OF]; grind
  | f + 1, e, h => by
    simp only [pwT]
    split
    · rename_i he; rw [he]; simp only [Tr3.val, zc_zero, zc_one, Ops.pw, OF]; grind
    · have ih := pwT_val hx f (e / 2) (by rw [Nat.pow_succ] at h; omega)
      split
      · rename_i ho
        have hxv : (⟨0, 1, 0⟩ : Tr3).val x = x := by simp only [Tr3.val, zc_zero, zc_one]; grind
        rw [mul_val hx, mul_val hx, ih, <- pwF_add, hxv]
        obtain ⟨q, hq⟩ : ∃ q, e = 2 * q + 1 := ⟨e / 2, by omega⟩
        rw [show e / 2 + e / 2 = e - 1 by omega]
        conv => rhs; rw [show e = (e - 1) + 1 by omega]
        show _ = x * (OF p).pw x (e - 1)
        exact Fin.mul_comm _ _
      · rw [mul_val hx, ih, <- pwF_add]
        congr 1; omega
theorem fermatF (hp : Pr p) (x : Fin p) : (OF p).pw x p = x := by
  have h2 := hp.1
  by_cases h0 : x = 0
  · subst h0
    obtain ⟨n, hn⟩ : ∃ n, p = n + 1 := ⟨p - 1, by omega⟩
    have : ∀ m, m = n + 1 -> (OF p).pw (0 : Fin p) m = 0 := fun m hm => by
      rw [hm]
      show (0 : Fin p) * _ = 0
      grind
    exact this p hn
  · have := mul_finv hp h0
    have e : ∀ m, m = (p - 2) + 1 + 1 -> (OF p).pw x m = x * (x * finv x) := fun m hm => by rw [hm]; rfl
    rw [e p (by omega), this]; grind
def rootOK (k : Int) (f : Nat) (u2 u1 u0 v1 v0 : Int) : Bool :=
  let r := pwT p k f p
  let A := r.a
  let B := r.b - 1
  let C := r.c
  decide ((u2 * A + v1) % (p : Int) = 0) && decide ((u2 * B + u1 * A + v0) % p = 0) && decide ((u2 * C + u1 * B + u0 * A - 3 * v1) % p = 0) &&
    decide ((u1 * C + u0 * B + k * v1 - 3 * v0) % p = 0) && decide ((u0 * C + k * v0 - 1) % p = 0)
theorem root_of (hp : Pr p) {k : Int} {f : Nat} {u2 u1 u0 v1 v0 : Int} (hf : p < 2 ^ f) (h : rootOK (p := p) k f u2 u1 u0 v1 v0 = true) (x : Fin p) : cu (zc k) x ≠ 0 := fun hx => by
  have e := pwT_val (p := p) hx f p hf
  rw [fermatF hp x] at e
  unfold rootOK at h
  simp only [Bool.and_eq_true, decide_eq_true_eq] at h
  obtain ⟨⟨⟨⟨h1, h2⟩, h3⟩, h4⟩, h5⟩ := h
  generalize pwT p k f p = r at *
  have z : ∀ {n : Int}, n % (p : Int) = 0 -> (zc n : Fin p) = 0 := fun {n} h => by
    rw [<- zc_zero (p := p)]; exact zc_eq (by rw [h]; simp)
  have g1 := z h1
  have g2 := z h2
  have g3 := z h3
  have g4 := z h4
  have g5 := z h5
  simp only [zc_add, zc_sub, zc_mul, zc_one, zc_three] at g1 g2 g3 g4 g5
  unfold Tr3.val at e
  unfold cu at hx
  have h1 : (1 : Fin p) = 0 := by
    generalize zc (p := p) r.a = A at *
    generalize zc (p := p) r.b = B at *
    generalize zc (p := p) r.c = C at *
    generalize zc (p := p) u2 = a2 at *
    generalize zc (p := p) u1 = a1 at *
    generalize zc (p := p) u0 = a0 at *
    generalize zc (p := p) v1 = b1 at *
    generalize zc (p := p) v0 = b0 at *
    generalize zc (p := p) k = kk at *
    have t1 : (a2 * x * x + a1 * x + a0) * (A * (x * x) + B * x + C - x) + (b1 * x + b0) * (x * x * x - (x + x + x) + kk) = 1 := by
      have : (a2 * x * x + a1 * x + a0) * (A * (x * x) + B * x + C - x) + (b1 * x + b0) * (x * x * x - (x + x + x) + kk) =
        (a2 * A + b1) * (x * x * x * x) + (a2 * (B - 1) + a1 * A + b0) * (x * x * x) + (a2 * C + a1 * (B - 1) + a0 * A - (1 + 1 + 1) * b1) * (x * x) + (a1 * C + a0 * (B - 1) + kk * b1 - (1 + 1 + 1) * b0) * x + (a0 * C + kk * b0 - 1) + 1 := by grobner
      rw [this, g1, g2, g3, g4, g5]; grind
    have t2 : A * (x * x) + B * x + C - x = 0 := by rw [e]; grind
    rw [t2, hx] at t1
    rw [<- t1]; grind
  exact one_ne hp h1
end
instance : NeZero pN := ⟨by decide⟩
def bN : Int := 18958286285566608000408668544493926415504680968679321075787234672564
theorem rootN : rootOK (p := pN) bN 225 9439789507511725786058244597052783711805086828869674293526675889612 4447412785031720342771701563499662000791675740805516550464163634437 1261710631285627074303005901530361786216288604486499842249704943048 19210574226754847695534190008803229529388947295036747370397045658491 9070461458155291254317755508530519593526533612090375268405278768450 = true := by kernel_rfl
theorem cvN : Cv pN (zc bN) where
  pr := pN_prime
  two := by
    intro h
    have := congrArg Fin.val h
    exact absurd this (by decide +kernel)
  root := root_of pN_prime (by decide +kernel) rootN
section
variable {p : Nat} [NeZero p]
theorem fz1 (a b : Fin p) : a * (b * 0) = 0 := by grind
theorem fz2 (a : Fin p) : 0 * a = 0 := by grind
theorem fz3 (a : Fin p) : a * 0 = 0 := by grind
theorem fo1 (a : Fin p) : a = a * (1 * 1) := by grind
theorem fo2 (a : Fin p) : a = a * (1 * 1 * 1) := by grind
end
def red (x : Int) : Prop := 0 <= x /\ x < p224
theorem p224_eq : p224 = ((pN : Nat) : Int) := by decide
theorem red_mod (x : Int) : red (x % p224) := ⟨Int.emod_nonneg _ (by decide), Int.emod_lt_of_pos _ (by decide)⟩
abbrev F := Fin pN
def φ (x : Int) : F := zc x
theorem φ_mod (x : Int) : φ (x % p224) = φ x := by unfold φ; rw [p224_eq]; exact zc_mod x
theorem φ_mul (a b : Int) : φ (a * b) = φ a * φ b := zc_mul a b
theorem φ_add (a b : Int) : φ (a + b) = φ a + φ b := zc_add a b
theorem φ_sub (a b : Int) : φ (a - b) = φ a - φ b := zc_sub a b
theorem φ_zero : φ 0 = 0 := zc_zero
theorem φ_one : φ 1 = 1 := zc_one
theorem φ_two : φ 2 = 1 + 1 := by rw [show (2 : Int) = 1 + 1 by rfl, φ_add, φ_one]
theorem φ_three : φ 3 = 1 + 1 + 1 := by rw [show (3 : Int) = 1 + 1 + 1 by rfl, φ_add, φ_add, φ_one]
theorem φ_four : φ 4 = 1 + 1 + 1 + 1 := by rw [show (4 : Int) = 1 + 1 + 1 + 1 by rfl, φ_add, φ_add, φ_add, φ_one]
theorem φ_eight : φ 8 = (1 + 1) * (1 + 1) * (1 + 1) := by rw [show (8 : Int) = 2 * 2 * 2 by rfl, φ_mul, φ_mul, φ_two]
theorem φ_inj {a b : Int} (ha : red a) (hb : red b) (h : φ a = φ b) : a = b := by
  have := zc_iff.1 h
  rw [<- p224_eq, Int.emod_eq_of_lt ha.1 ha.2, Int.emod_eq_of_lt hb.1 hb.2] at this
  exact this
theorem φ_ne {a : Int} (ha : red a) (h : a ≠ 0) : φ a ≠ 0 := fun e => h (φ_inj ha ⟨by decide, by decide⟩ (e.trans φ_zero.symm))
theorem φ_T (a b : Int) : φ (fT a b) = φ a * φ b := by unfold fT; rw [φ_mod, φ_mul]
theorem φ_P (a b : Int) : φ (fP a b) = φ a + φ b := by unfold fP; rw [φ_mod, φ_add]
theorem φ_M (a b : Int) : φ (fM a b) = φ a - φ b := by unfold fM; rw [φ_mod, φ_sub]
theorem red_T (a b : Int) : red (fT a b) := red_mod _
theorem red_P (a b : Int) : red (fP a b) := red_mod _
theorem red_M (a b : Int) : red (fM a b) := red_mod _
theorem red_zero : red 0 := ⟨by decide, by decide⟩
theorem φ_ipw (a : Int) (n : Nat) : φ (ipw a n) = (OF pN).pw (φ a) n := by
  induction n with
  | zero => exact φ_one
  | succ n ih =>
    rw [ipw_succ, φ_mul, ih]
    exact Fin.mul_comm _ _
theorem φ_I (a : Int) : φ (fI a) = finv (φ a) := by
  unfold fI
  rw [φ_mod, φ_ipw]
  rfl
theorem red_I (a : Int) : red (fI a) := red_mod _
def βB : F := zc bN
theorem φ_bB : φ bB = βB := rfl
abbrev GN := G pN
def onN (g : GN) : Prop := onG βB g
def addN (g k : GN) : GN := gadd βB g k
def mulN (n : Nat) (g : GN) : GN := gmul βB n g
def JRep (t : Tri) (g : GN) : Prop := red t.z /\ ((t.z = 0 /\ g = none) \/ (t.z ≠ 0 /\ ∃ u v, g = some (u, v) /\ φ t.x = u * (φ t.z * φ t.z) /\ φ t.y = v * (φ t.z * φ t.z * φ t.z)))
theorem twF_spec {t : Tri} {g : GN} (h : JRep t g) (hg : onN g) : JRep (twF t) (addN g g) := by
  obtain ⟨hr, h⟩ := h
  refine ⟨red_T _ _, ?_⟩
  have hz : φ (twF t).z = (1 + 1) * (φ t.y * φ t.z) := by simp only [twF, φ_T, φ_two]
  rcases h with ⟨h0, rfl⟩ | ⟨h0, u, v, rfl, hx, hy⟩
  · refine .inl ⟨φ_inj (red_T _ _) red_zero ?_, gadd_none cvN trivial⟩
    rw [hz, h0, φ_zero]; exact fz1 _ _
  · right
    have hZ := φ_ne hr h0
    have hv : v ≠ 0 := cvN.y_ne hg
    have hvv : v + v ≠ 0 := by
      have := mul_ne cvN.pr cvN.two hv
      intro e
      apply this
      grobner
    have hs := mul_finv cvN.pr hvv
    have hs' : ((u * u + u * u + u * u - (1 + 1 + 1)) * finv (v + v)) * (v + v) = u * u + u * u + u * u - (1 + 1 + 1) := by
      generalize finv (v + v) = i at hs
      grobner
    generalize (u * u + u * u + u * u - (1 + 1 + 1)) * finv (v + v) = s at hs'
    have ht := gadd_tangent cvN (x := u) (y := v) (s := s) hg hs'
    refine ⟨fun e => ?_, _, _, ht, ?_, ?_⟩
    · have : φ (twF t).z = 0 := by rw [e, φ_zero]
      rw [hz, hy] at this
      refine absurd this (mul_ne cvN.pr cvN.two (mul_ne cvN.pr (mul_ne cvN.pr hv (mul_ne cvN.pr (mul_ne cvN.pr hZ hZ) hZ)) hZ))
    · rw [hz]
      simp only [twF, φ_T, φ_P, φ_M, φ_three, φ_four, hx, hy]
      clear hx hy hz hr ht hs hvv hv
      generalize φ t.z = Z at *
      grobner
    · rw [hz]
      simp only [twF, φ_T, φ_P, φ_M, φ_three, φ_four, φ_eight, hx, hy]
      clear hx hy hz hr ht hs hvv hv
      generalize φ t.z = Z at *
      grobner
theorem moF_spec {t : Tri} {g : GN} (h : JRep t g) (hg : onN g) {a b : Int} (hq : onN (some (φ a, φ b))) : JRep (moF t a b) (addN g (some (φ a, φ b))) := by
  have hr := h.1
  have h' := h.2
  rcases h' with ⟨h0, rfl⟩ | ⟨h0, u, v, rfl, hx, hy⟩
  · unfold moF
    rw [if_pos h0]
    refine ⟨(⟨by decide, by decide⟩ : red 1), .inr ⟨(by decide : (1 : Int) ≠ 0), φ a, φ b, gadd_none cvN hq, ?_, ?_⟩⟩
    · simp only [φ_one]; exact fo1 _
    · simp only [φ_one]; exact fo2 _
  · have hZ := φ_ne hr h0
    unfold moF
    rw [if_neg h0]
    simp only []
    have eh : φ (fM (fT a (fT t.z t.z)) t.x) = (φ a - u) * (φ t.z * φ t.z) := by
      simp only [φ_M, φ_T, hx]; grobner
    have er : φ (fM (fT b (fT t.z (fT t.z t.z))) t.y) = (φ b - v) * (φ t.z * φ t.z * φ t.z) := by
      simp only [φ_M, φ_T, hy]; grobner
    have hZ2 := mul_ne cvN.pr hZ hZ
    have hZ3 := mul_ne cvN.pr hZ2 hZ
    split
    · rename_i hc
      obtain ⟨c1, c2⟩ := hc
      rw [c1, φ_zero] at eh
      rw [c2, φ_zero] at er
      have e1 : φ a = u := by
        rcases mul_zero_iff cvN.pr eh.symm with e | e
        · grobner
        · exact absurd e hZ2
      have e2 : φ b = v := by
        rcases mul_zero_iff cvN.pr er.symm with e | e
        · grobner
        · exact absurd e hZ3
      rw [e1, e2]
      exact twF_spec h hg
    · rename_i hc
      refine ⟨red_T _ _, ?_⟩
      have ez : ∀ w, φ (fT t.z w) = φ t.z * φ w := fun w => φ_T _ _
      by_cases ha : φ a - u = 0
      ·
        have e1 : φ a = u := by grobner
        have hne : φ b - v ≠ 0 := fun e => hc ⟨φ_inj (red_M _ _) red_zero (by rw [eh, ha, φ_zero]; exact fz2 _), φ_inj (red_M _ _) red_zero (by rw [er, e, φ_zero]; exact fz2 _)⟩
        have e2 : φ b = -v := by
          have q1 : v * v = cu βB u := hg
          have q2 : φ b * φ b = cu βB (φ a) := hq
          rw [e1] at q2
          rcases mul_zero_iff cvN.pr (show (φ b - v) * (φ b + v) = 0 by grobner) with e | e
          · exact absurd e hne
          · grobner
        left
        refine ⟨φ_inj (red_T _ _) red_zero ?_, ?_⟩
        · rw [ez, eh, ha, φ_zero, fz2]; exact fz3 _
        · rw [e1, e2]; exact gadd_opp cvN hg
      · right
        have hs := mul_finv cvN.pr ha
        have hs' : ((φ b - v) * finv (φ a - u)) * (φ a - u) = φ b - v := by
          generalize finv (φ a - u) = i at hs
          grobner
        generalize (φ b - v) * finv (φ a - u) = s at hs'
        have ht := gadd_chord cvN (x1 := u) (y1 := v) (x2 := φ a) (y2 := φ b) (s := s) hg hq ha hs'
        refine ⟨fun e => ?_, _, _, ht, ?_, ?_⟩
        · have : φ (fT t.z (fM (fT a (fT t.z t.z)) t.x)) = 0 := by
            have e : fT t.z (fM (fT a (fT t.z t.z)) t.x) = 0 := e
            rw [e, φ_zero]
          rw [ez, eh] at this
          exact absurd this (mul_ne cvN.pr hZ (mul_ne cvN.pr ha hZ2))
        · simp only [ez, eh]
          simp only [φ_M, φ_T, φ_P, hx, hy]
          clear hx hy hr ht hs h eh er ez hc hZ2 hZ3
          generalize φ t.z = Z at *
          generalize φ a = A at *
          generalize φ b = B at *
          obtain rfl : B = s * (A - u) + v := by grobner
          grobner
        · simp only [ez, eh]
          simp only [φ_M, φ_T, φ_P, hx, hy]
          clear hx hy hr ht hs h eh er ez hc hZ2 hZ3
          generalize φ t.z = Z at *
          generalize φ a = A at *
          generalize φ b = B at *
          obtain rfl : B = s * (A - u) + v := by grobner
          grobner
theorem φ_val {x : Int} (h : red x) : ((φ x).val : Int) = x := by
  have := zc_val (p := pN) x
  rw [<- p224_eq, Int.emod_eq_of_lt h.1 h.2] at this
  exact this
def toG (o : Option (Int × Int)) : GN := o.map fun t => (φ t.1, φ t.2)
def redO (o : Option (Int × Int)) : Prop := ∀ t, o = some t -> red t.1 /\ red t.2
theorem mulN_on {g : GN} (hg : onN g) (n : Nat) : onN (mulN n g) := gmul_on cvN hg n
theorem mulN_dbl {g : GN} (hg : onN g) (m : Nat) : addN (mulN m g) (mulN m g) = mulN (2 * m) g := (gmul_two cvN hg m).symm
theorem stepF_spec {a b : Int} (hq : onN (some (φ a, φ b))) {t : Tri} {m : Nat} (h : JRep t (mulN m (some (φ a, φ b)))) (bit : Bool) : JRep (stepF a b t bit) (mulN (2 * m + if bit then 1 else 0) (some (φ a, φ b))) := by
  have h2 := twF_spec h (mulN_on hq m)
  rw [mulN_dbl hq] at h2
  cases bit with
  | false => exact h2
  | true => exact moF_spec h2 (mulN_on hq _) hq
theorem bit_split (k n : Nat) : k % 2 ^ (n + 1) = (if k / 2 ^ n % 2 == 1 then 1 else 0) * 2 ^ n + k % 2 ^ n := by
  rw [Nat.pow_succ, Nat.mod_mul]
  have : k / 2 ^ n % 2 = 0 \/ k / 2 ^ n % 2 = 1 := by omega
  rcases this with e | e <;> simp [e] <;> omega
theorem bitsF_spec {a b : Int} (hq : onN (some (φ a, φ b))) (k : Nat) : ∀ (n : Nat) {t : Tri} {m : Nat}, JRep t (mulN m (some (φ a, φ b))) -> JRep (bitsF a b k n t) (mulN (m * 2 ^ n + k % 2 ^ n) (some (φ a, φ b)))
  | 0, t, m, h => by
    have : m * 2 ^ 0 + k % 2 ^ 0 = m := by simp; omega
    rw [this]; exact h
  | n + 1, t, m, h => by
    have h1 := stepF_spec hq h (k / 2 ^ n % 2 == 1)
    have h2 := bitsF_spec hq k n h1
    have e : (2 * m + if k / 2 ^ n % 2 == 1 then 1 else 0) * 2 ^ n + k % 2 ^ n = m * 2 ^ (n + 1) + k % 2 ^ (n + 1) := by
      rw [bit_split k n, Nat.pow_succ, Nat.add_mul]
      generalize (if k / 2 ^ n % 2 == 1 then 1 else 0) * 2 ^ n = q
      have : 2 * m * 2 ^ n = m * (2 ^ n * 2) := by rw [Nat.mul_comm 2 m, Nat.mul_assoc, Nat.mul_comm 2]
      omega
    rw [e] at h2
    exact h2
theorem bn_from (l : List Int) : ∀ (m : Int), l.foldl (fun a b => a * 256 + b) m = m * 256 ^ l.length + bn l := by
  induction l with
  | nil => intro m; simp [bn]
  | cons x l ih =>
    intro m
    show List.foldl (fun a b => a * 256 + b) (m * 256 + x) l = m * 256 ^ (l.length + 1) + List.foldl (fun a b => a * 256 + b) (0 * 256 + x) l
    rw [ih, ih (0 * 256 + x), Int.pow_succ]
    grind
theorem bn_nonneg : ∀ {l : List Int}, (∀ x ∈ l, byteOK x) -> 0 <= bn l := by
  intro l
  induction l with
  | nil => intro _; decide
  | cons x l ih =>
    intro h
    rw [bn, List.foldl_cons, bn_from]
    have h1 := h x (by simp)
    have h2 := ih fun y hy => h y (by simp [hy])
    have h3 : (0 : Int) <= 256 ^ l.length := Int.pow_nonneg (by decide)
    have : 0 <= (0 * 256 + x) * 256 ^ l.length := Int.mul_nonneg (by unfold byteOK at h1; omega) h3
    omega
theorem bytesF_spec {a b : Int} (hq : onN (some (φ a, φ b))) : ∀ {l : List Int} {t : Tri} {m : Nat}, (∀ x ∈ l, byteOK x) -> JRep t (mulN m (some (φ a, φ b))) -> JRep (bytesF a b l t) (mulN (m * 256 ^ l.length + (bn l).toNat) (some (φ a, φ b)))
  | [], t, m, _, h => by
    have : m * 256 ^ ([] : List Int).length + (bn []).toNat = m := by simp [bn]
    rw [this]; exact h
  | x :: l, t, m, hl, h => by
    have h1 := hl x (by simp)
    have h2 := bitsF_spec hq x.toNat 8 h
    have hx : x.toNat % 2 ^ 8 = x.toNat := Nat.mod_eq_of_lt (by unfold byteOK at h1; omega)
    rw [hx] at h2
    have h3 := bytesF_spec hq (l := l) (fun y hy => hl y (by simp [hy])) h2
    have e : (m * 2 ^ 8 + x.toNat) * 256 ^ l.length + (bn l).toNat = m * 256 ^ (x :: l).length + (bn (x :: l)).toNat := by
      have e1 : bn (x :: l) = x * 256 ^ l.length + bn l := by
        show List.foldl (fun a b => a * 256 + b) (0 * 256 + x) l = _
        rw [bn_from, Int.zero_mul, Int.zero_add]
      have e2 : 0 <= bn l := bn_nonneg fun y hy => hl y (by simp [hy])
      have e3 : (bn (x :: l)).toNat = x.toNat * 256 ^ l.length + (bn l).toNat := by
        have hx0 : ((x.toNat : Nat) : Int) = x := Int.toNat_of_nonneg h1.1
        have : (bn (x :: l)) = ((x.toNat * 256 ^ l.length + (bn l).toNat : Nat) : Int) := by
          rw [e1, Int.natCast_add, Int.natCast_mul, hx0, Int.toNat_of_nonneg e2, Int.natCast_pow]; rfl
        rw [this, Int.toNat_natCast]
      rw [e3, List.length_cons, Nat.pow_succ, Nat.add_mul]
      have : m * 2 ^ 8 * 256 ^ l.length = m * (256 ^ l.length * 256) := by rw [Nat.mul_assoc, Nat.mul_comm (2 ^ 8)]
      rw [this, Nat.add_assoc, <- Nat.pow_succ]
    rw [e] at h3
    exact h3
section
variable {p : Nat} [NeZero p]
theorem jx (x i u z : Fin p) (h : z * i = 1) (hx : x = u * (z * z)) : x * (i * i) = u := by subst hx; grobner
theorem jy (y i v z : Fin p) (h : z * i = 1) (hy : y = v * (z * z * z)) : y * (i * i * i) = v := by subst hy; grobner
end
theorem multF_spec {a b : Int} (hq : onN (some (φ a, φ b))) {l : List Int} (hl : ∀ x ∈ l, byteOK x) : toG (multF a b l) = mulN (bn l).toNat (some (φ a, φ b)) /\ redO (multF a b l) := by
  have h0 : JRep ⟨1, 1, 0⟩ (mulN 0 (some (φ a, φ b))) := ⟨red_zero, .inl ⟨rfl, rfl⟩⟩
  have h := bytesF_spec hq hl h0
  rw [Nat.zero_mul, Nat.zero_add] at h
  unfold multF
  simp only []
  generalize bytesF a b l ⟨1, 1, 0⟩ = t at *
  obtain ⟨hr, h⟩ := h
  rcases h with ⟨h0, hg⟩ | ⟨h0, u, v, hg, hx, hy⟩
  · rw [if_pos h0, hg]; exact ⟨rfl, fun t ht => by cases ht⟩
  · rw [if_neg h0, hg]
    refine ⟨?_, fun t ht => ?_⟩
    · have hi := mul_finv cvN.pr (φ_ne hr h0)
      show some (φ (fT t.x (fT (fI t.z) (fI t.z))), φ (fT t.y (fT (fT (fI t.z) (fI t.z)) (fI t.z)))) = some (u, v)
      simp only [φ_T, φ_I]
      rw [jx _ _ _ _ hi hx, jy _ _ _ _ hi hy]
    · simp only [Option.some.injEq] at ht
      rw [<- ht]
      exact ⟨red_T _ _, red_T _ _⟩
theorem sumF_spec {px py qx qy : Int} (r1 : red px) (r2 : red py) (r3 : red qx) (r4 : red qy) (hp : onN (some (φ px, φ py))) (hq : onN (some (φ qx, φ qy))) :
    toG (sumF px py qx qy) = addN (some (φ px, φ py)) (some (φ qx, φ qy)) /\ redO (sumF px py qx qy) := by
  unfold sumF
  simp only []
  have fin : ∀ s : Int, φ (fM (fM (fT s s) px) qx) = φ s * φ s - φ px - φ qx /\ φ (fM (fT s (fM px (fM (fM (fT s s) px) qx))) py) = φ s * (φ px - (φ s * φ s - φ px - φ qx)) - φ py := fun s => by
    simp only [φ_M, φ_T, and_self]
  split
  · rename_i ex
    subst ex
    have hy0 : φ py ≠ 0 := cvN.y_ne hp
    split
    · rename_i hc
      have hne : ¬ py = qy := by
        rcases hc with h | h
        · exact h
        · exact absurd (by rw [h, φ_zero]) hy0
      refine ⟨?_, fun t ht => by cases ht⟩
      have q1 : φ py * φ py = cu βB (φ px) := hp
      have q2 : φ qy * φ qy = cu βB (φ px) := hq
      have : φ qy = -φ py := by
        rcases mul_zero_iff cvN.pr (show (φ qy - φ py) * (φ qy + φ py) = 0 by grobner) with e | e
        · exact absurd (φ_inj r4 r2 (by grobner)).symm hne
        · grobner
      rw [this]
      exact (gadd_opp cvN hp).symm
    · rename_i hc
      simp only [not_or, Classical.not_not] at hc
      obtain ⟨hc1, hc2⟩ := hc
      subst hc1
      have hyy : φ py + φ py ≠ 0 := by
        have := mul_ne cvN.pr cvN.two hy0
        intro e
        apply this
        grobner
      have hi := mul_finv cvN.pr hyy
      have es : φ (fT (fM (fT 3 (fT px px)) 3) (fI (fP py py))) = ((1 + 1 + 1) * (φ px * φ px) - (1 + 1 + 1)) * finv (φ py + φ py) := by
        simp only [φ_T, φ_M, φ_I, φ_P, φ_three]
      generalize fT (fM (fT 3 (fT px px)) 3) (fI (fP py py)) = s at *
      have hs : φ s * (φ py + φ py) = φ px * φ px + φ px * φ px + φ px * φ px - (1 + 1 + 1) := by
        rw [es]
        generalize finv (φ py + φ py) = i at hi
        clear es
        grobner
      refine ⟨?_, fun t ht => by simp only [Option.some.injEq] at ht; rw [<- ht]; exact ⟨red_M _ _, red_M _ _⟩⟩
      refine Eq.trans ?_ (gadd_tangent cvN hp hs).symm
      show some (_, _) = _
      rw [(fin s).1, (fin s).2]
  · rename_i ex
    have hx : φ qx - φ px ≠ 0 := fun e => ex (φ_inj r1 r3 (by grobner))
    have hi := mul_finv cvN.pr hx
    have es : φ (fT (fM qy py) (fI (fM qx px))) = (φ qy - φ py) * finv (φ qx - φ px) := by
      simp only [φ_T, φ_M, φ_I]
    generalize fT (fM qy py) (fI (fM qx px)) = s at *
    have hs : φ s * (φ qx - φ px) = φ qy - φ py := by
      rw [es]
      generalize finv (φ qx - φ px) = i at hi
      clear es
      grobner
    refine ⟨?_, fun t ht => by simp only [Option.some.injEq] at ht; rw [<- ht]; exact ⟨red_M _ _, red_M _ _⟩⟩
    refine Eq.trans ?_ (gadd_chord cvN hp hq hx hs).symm
    show some (_, _) = _
    rw [(fin s).1, (fin s).2]
def GG : GN := some (φ gX, φ gY)
theorem GG_on : onN GG := by
  show φ gY * φ gY = cu βB (φ gX)
  apply Fin.ext
  decide +kernel
def xIs (g : GN) (r : Int) : Prop := match g with | none => False | some t => ((t.1).val : Int) % n224 = r
def xO (o : Option (Int × Int)) (r : Int) : Prop := match o with | none => False | some t => t.1 % n224 = r
theorem xIs_toG {o : Option (Int × Int)} (h : redO o) (r : Int) : xIs (toG o) r ↔ xO o r := by
  cases o with
  | none => exact Iff.rfl
  | some t =>
    have := (h t rfl).1
    show ((φ t.1).val : Int) % n224 = r ↔ _
    rw [φ_val this]
    exact Iff.rfl
theorem toB_byteOK : ∀ (k : Nat) (x : Int), ∀ y ∈ toB k x, byteOK y
  | 0, _, y, h => by cases h
  | k + 1, x, y, h => by
    rw [toB] at h
    rcases List.mem_append.1 h with h | h
    · exact toB_byteOK k _ y h
    · simp only [List.mem_singleton] at h
      subst h
      unfold byteOK; omega
theorem bn_toB : ∀ (k : Nat) (x : Int), 0 <= x -> x < 256 ^ k -> bn (toB k x) = x
  | 0, x, h0, h1 => by
    have : x = 0 := by rw [Int.pow_zero] at h1; omega
    subst this; rfl
  | k + 1, x, h0, h1 => by
    rw [toB, bn_snoc, bn_toB k (x / 256) (by omega) (by
      rw [Int.pow_succ] at h1
      exact Int.ediv_lt_of_lt_mul (by decide) h1)]
    omega
theorem n_bytes {x : Int} (h0 : 0 <= x) (h1 : x < n224) : bn (toB 28 x) = x := bn_toB 28 x h0 (Int.lt_trans h1 (by decide))
theorem verM_spec {o1 o2 : Option (Int × Int)} {g k : GN} (hg : onN g) (hk : onN k) (e1 : toG o1 = g) (e2 : toG o2 = k) (h1 : redO o1) (h2 : redO o2) (r : Int) : verM o1 o2 r = true ↔ xIs (addN g k) r := by
  subst e1; subst e2
  cases o1 with
  | none =>
    have : addN (toG none) (toG o2) = toG o2 := gadd_none cvN hk
    rw [this, xIs_toG h2]
    cases o2 with
    | none => simp [verM, xO]
    | some t => simp [verM, xO]
  | some s =>
    cases o2 with
    | none =>
      have : addN (toG (some s)) (toG none) = toG (some s) := gadd_none' cvN hg
      rw [this, xIs_toG h1]
      simp [verM, xO]
    | some t =>
      obtain ⟨r1, r2⟩ := h1 s rfl
      obtain ⟨r3, r4⟩ := h2 t rfl
      obtain ⟨q1, q2⟩ := sumF_spec r1 r2 r3 r4 hg hk
      have : addN (toG (some s)) (toG (some t)) = toG (sumF s.1 s.2 t.1 t.2) := q1.symm
      rw [this, xIs_toG q2]
      obtain ⟨sx, sy⟩ := s
      obtain ⟨tx, ty⟩ := t
      simp only [verM]
      cases sumF sx sy tx ty with
      | none => simp [xO]
      | some z => simp [xO]
theorem verF_spec {qx qy : Int} (hq : onN (some (φ qx, φ qy))) (rs ss hs : List Int) : verF qx qy rs ss hs = true ↔
    ((bn rs ≠ 0 /\ bn rs < n224) /\ (bn ss ≠ 0 /\ bn ss < n224)) /\
      xIs (addN (mulN ((bn hs % n224) * (ipw (bn ss) nm2 % n224) % n224).toNat GG) (mulN ((bn rs * (ipw (bn ss) nm2 % n224)) % n224).toNat (some (φ qx, φ qy)))) (bn rs) := by
  unfold verF
  generalize ipw (bn ss) nm2 % n224 = w
  have key : ∀ (a b : Int), onN (some (φ a, φ b)) -> ∀ u : Int, 0 <= u -> u < n224 -> toG (multF a b (toB 28 u)) = mulN u.toNat (some (φ a, φ b)) /\ redO (multF a b (toB 28 u)) := fun a b h u h0 h1 => by
    have := multF_spec h (toB_byteOK 28 u)
    rw [n_bytes h0 h1] at this
    exact this
  split
  · rename_i c
    obtain ⟨a1, a2⟩ := key gX gY GG_on ((bn hs % n224) * w % n224) (Int.emod_nonneg _ (by decide)) (Int.emod_lt_of_pos _ (by decide))
    obtain ⟨b1, b2⟩ := key qx qy hq ((bn rs * w) % n224) (Int.emod_nonneg _ (by decide)) (Int.emod_lt_of_pos _ (by decide))
    rw [verM_spec (mulN_on GG_on _) (mulN_on hq _) a1 b1 a2 b2]
    exact ⟨fun h => ⟨c, h⟩, fun h => h.2⟩
  · rename_i c
    exact ⟨fun h => (by cases h), fun h => absurd h.1 c⟩
open Go.Proofs.YtmogojlijkddpaaGreat (v4 pp MulP SubP AddP)
def R256 : Int := 115792089237316195423570985008687907853269984665640564039457584007913129639936
def Ri : F := finv (φ R256)
def wv4 (l : List Int) : Int := v4 (nth l 0) (nth l 1) (nth l 2) (nth l 3)
def okE (l : List Int) : Prop := 0 <= wv4 l /\ wv4 l < pp
def dv (l : List Int) : F := φ (wv4 l) * Ri
theorem pp_eq : pp = p224 := rfl
theorem φ_pp (k : Int) : φ (pp * k) = 0 := by
  rw [φ_mul]
  have : φ pp = 0 := by
    rw [<- φ_zero]
    exact zc_eq (by rw [show ((pN : Nat) : Int) = pp by rw [<- p224_eq, pp_eq]]; simp)
  rw [this]; exact fz2 _
theorem RRi : φ R256 * Ri = 1 := by
  refine mul_finv cvN.pr fun e => ?_
  have := congrArg Fin.val e
  exact absurd this (by decide +kernel)
def Q4 (ρ : Nat -> Int) (i : Nat) : List Int := [ρ i, ρ (i + 1), ρ (i + 2), ρ (i + 3)]
theorem of4 {a : List Int} (h : a.length = 4) : ∃ ρ, a = Q4 ρ 0 := ⟨fun i => nth a i, by
  match a, h with
  | [_, _, _, _], _ => rfl⟩
def leb : List Int -> Int
  | [] => 0
  | x :: l => x + 256 * leb l
def wordsOK (l : List Int) : Prop := ∀ i, i < 4 -> 0 <= nth l i /\ nth l i <= 18446744073709551615
section
variable {p : Nat} [NeZero p]
theorem fm1 (r a b R i k : Fin p) (h : R * i = 1) (e : r * R = a * b + k) (hk : k = 0) : r * i = a * i * (b * i) := by subst hk; grobner
theorem fm2 (r a b i k : Fin p) (e : r = a + b + k) (hk : k = 0) : r * i = a * i + b * i := by subst hk; grobner
theorem fm3 (r a b i k : Fin p) (e : r = a - b + k) (hk : k = 0) : r * i = a * i - b * i := by subst hk; grobner
theorem fm4 (r R i : Fin p) (h : R * i = 1) (e : r = R) : r * i = 1 := by grobner
end
theorem dv_mul {a b r : List Int} (ha : a.length = 4) (hb : b.length = 4) (hr : r.length = 4) (oa : okE a) (ob : okE b) (t : MulP (a ++ b ++ r)) : okE r /\ dv r = dv a * dv b := by
  obtain ⟨ρ, rfl⟩ := of4 ha
  obtain ⟨σ, rfl⟩ := of4 hb
  obtain ⟨τ, rfl⟩ := of4 hr
  have t' : wv4 (Q4 ρ 0) < pp -> wv4 (Q4 σ 0) < pp -> 0 <= wv4 (Q4 τ 0) /\ wv4 (Q4 τ 0) < pp /\ ∃ k, wv4 (Q4 τ 0) * R256 = wv4 (Q4 ρ 0) * wv4 (Q4 σ 0) + pp * k := t
  obtain ⟨t1, t2, k, t3⟩ := t' oa.2 ob.2
  refine ⟨⟨t1, t2⟩, ?_⟩
  have e := congrArg φ t3
  rw [φ_mul, φ_add, φ_mul] at e
  exact fm1 _ _ _ _ _ _ RRi e (φ_pp k)
theorem dv_add {a b r : List Int} (ha : a.length = 4) (hb : b.length = 4) (hr : r.length = 4) (oa : okE a) (ob : okE b) (t : AddP (a ++ b ++ r)) : okE r /\ dv r = dv a + dv b := by
  obtain ⟨ρ, rfl⟩ := of4 ha
  obtain ⟨σ, rfl⟩ := of4 hb
  obtain ⟨τ, rfl⟩ := of4 hr
  have t' : wv4 (Q4 ρ 0) < pp -> wv4 (Q4 σ 0) < pp -> 0 <= wv4 (Q4 τ 0) /\ wv4 (Q4 τ 0) < pp /\ ∃ k, wv4 (Q4 τ 0) = wv4 (Q4 ρ 0) + wv4 (Q4 σ 0) + pp * k := t
  obtain ⟨t1, t2, k, t3⟩ := t' oa.2 ob.2
  refine ⟨⟨t1, t2⟩, ?_⟩
  have e := congrArg φ t3
  rw [φ_add, φ_add] at e
  exact fm2 _ _ _ _ _ e (φ_pp k)
theorem dv_sub {a b r : List Int} (ha : a.length = 4) (hb : b.length = 4) (hr : r.length = 4) (oa : okE a) (ob : okE b) (t : SubP (a ++ b ++ r)) : okE r /\ dv r = dv a - dv b := by
  obtain ⟨ρ, rfl⟩ := of4 ha
  obtain ⟨σ, rfl⟩ := of4 hb
  obtain ⟨τ, rfl⟩ := of4 hr
  have t' : wv4 (Q4 ρ 0) < pp -> wv4 (Q4 σ 0) < pp -> 0 <= wv4 (Q4 τ 0) /\ wv4 (Q4 τ 0) < pp /\ ∃ k, wv4 (Q4 τ 0) = wv4 (Q4 ρ 0) - wv4 (Q4 σ 0) + pp * k := t
  obtain ⟨t1, t2, k, t3⟩ := t' oa.2 ob.2
  refine ⟨⟨t1, t2⟩, ?_⟩
  have e := congrArg φ t3
  rw [φ_add, φ_sub] at e
  exact fm3 _ _ _ _ _ e (φ_pp k)
def oneL : List Int := [18446744069414584320, 18446744073709551615, 0, 0]
theorem one_ok : okE oneL := ⟨by decide, by decide⟩
theorem dv_one : dv oneL = 1 := by
  refine fm4 _ _ _ RRi (zc_eq ?_)
  rw [<- p224_eq]; decide
def zeroL : List Int := [0, 0, 0, 0]
theorem zero_ok : okE zeroL := ⟨by decide, by decide⟩
theorem dv_zero : dv zeroL = 0 := by
  have : wv4 zeroL = 0 := by decide
  unfold dv; rw [this, φ_zero]; exact fz2 _
abbrev P3 := F × F × F
def pt (l : List Int) : P3 := (dv l, dv (l.drop 4), dv (l.drop 8))
def okP (l : List Int) : Prop := okE l /\ okE (l.drop 4) /\ okE (l.drop 8)
def adI (P Q : P3) : P3 := rcb (OF pN) βB P Q
def dblT {α : Type} (O : Ops α) (b : α) (P : α × α × α) : α × α × α :=
  let t0 := O.mul P.1 P.1
  let t1 := O.mul P.2.1 P.2.1
  let t2 := O.mul P.2.2 P.2.2
  let t3 := O.mul P.1 P.2.1
  let t3 := O.add t3 t3
  let z3 := O.mul P.1 P.2.2
  let z3 := O.add z3 z3
  let y3 := O.sub (O.mul b t2) z3
  let y3 := O.add (O.add y3 y3) y3
  let x3 := O.sub t1 y3
  let y3 := O.add t1 y3
  let y3 := O.mul x3 y3
  let x3 := O.mul x3 t3
  let t2 := O.add t2 (O.add t2 t2)
  let z3 := O.sub (O.sub (O.mul b z3) t2) t0
  let z3 := O.add z3 (O.add z3 z3)
  let t0 := O.sub (O.add (O.add t0 t0) t0) t2
  let t0 := O.mul t0 z3
  let y3 := O.add y3 t0
  let t0 := O.mul P.2.1 P.2.2
  let t0 := O.add t0 t0
  let z3 := O.mul t0 z3
  let x3 := O.sub x3 z3
  let z3 := O.mul t0 t1
  let z3 := O.add z3 z3
  (x3, y3, O.add z3 z3)
def dbI (P : P3) : P3 := dblT (OF pN) βB P
def farI : P3 := (0, 1, 0)
def AddPtP (l : List Int) : Prop := okP l -> okP (l.drop 12) -> okP (l.drop 24) /\ pt (l.drop 24) = adI (pt l) (pt (l.drop 12))
def DblPtP (l : List Int) : Prop := okP l -> okP (l.drop 12) /\ pt (l.drop 12) = dbI (pt l)
def SelPtP (l : List Int) : Prop := (nth l 0 = 0 \/ nth l 0 = 1) -> (l.drop 25).take 12 = if nth l 0 = 1 then (l.drop 1).take 12 else (l.drop 13).take 12
structure FI (X : Tk) : Prop where
  mul : ∀ l, X 1 l ↔ Go.Proofs.YtmogojlijkddpaaGreat.MulP l
  sub : ∀ l, X 2 l ↔ Go.Proofs.YtmogojlijkddpaaGreat.SubP l
  add : ∀ l, X 3 l ↔ Go.Proofs.YtmogojlijkddpaaGreat.AddP l
section
variable {X : Tk}
theorem endP_same {s : Sm} {k : Nat} {L : Look} (o : SmO) (tag : Nat) (es fs : List IE) (ho : s.outs[k]? = some o) (hp : o.post = [(tag, es)]) (hm : Con.ext tag fs ∈ L.ks)
    (he : ∀ ρ : Nat -> Int, es.map (IE.eval (numsOf s.nv L ρ)) = fs.map (IE.eval ρ)) : EndP X s k L := fun o' ho' ρ hs x hx => by
  rw [ho] at ho'
  simp only [Option.some.injEq] at ho'
  subst ho'
  rw [hp] at hx
  simp only [List.mem_singleton] at hx
  subst hx
  have := hs.ks _ hm
  show X tag (es.map (IE.eval (numsOf s.nv L ρ)))
  rw [he ρ]
  exact this
theorem endP_none {s : Sm} {k : Nat} {L : Look} (o : SmO) (ho : s.outs[k]? = some o) (hp : o.post = []) : EndP X s k L := fun o' ho' ρ hs x hx => by
  rw [ho] at ho'
  simp only [Option.some.injEq] at ho'
  subst ho'
  rw [hp] at hx
  cases hx
end
end Go.Vm
namespace Go.Proofs.YtmogojlijkddpaaGreat
open Go.Vm
variable {X : Tk}
def specA (f : FuncId) : Option (Fs) :=
  match f with
  | 151 => some mulS.spec | 170 => some sqS.spec | 152 => some addS.spec | 153 => some subS.spec | 163 => some toS.spec | 171 => some fromS.spec
  | f => spec0 f
theorem specA_ok (h : FI X) : ∀ f sp, specA f = some sp -> FnOK Tryz.prog f /\ SpecOK Tryz.prog X f sp := fun f sp hs => by
  unfold specA at hs
  split at hs
  · simp only [Option.some.injEq] at hs; subst hs; exact ⟨fn_ok Tryz.func151 (by kernel_rfl) (by kernel_rfl), mul_ok fun l => (h.mul l).2⟩
  · simp only [Option.some.injEq] at hs; subst hs; exact ⟨fn_ok Tryz.func170 (by kernel_rfl) (by kernel_rfl), sq_ok fun l => (h.mul l).2⟩
  · simp only [Option.some.injEq] at hs; subst hs; exact ⟨fn_ok Tryz.func152 (by kernel_rfl) (by kernel_rfl), add_ok fun l => (h.add l).2⟩
  · simp only [Option.some.injEq] at hs; subst hs; exact ⟨fn_ok Tryz.func153 (by kernel_rfl) (by kernel_rfl), sub_ok fun l => (h.sub l).2⟩
  · simp only [Option.some.injEq] at hs; subst hs; exact ⟨fn_ok Tryz.func163 (by kernel_rfl) (by kernel_rfl), to_ok fun l => (h.mul l).2⟩
  · simp only [Option.some.injEq] at hs; subst hs; exact ⟨fn_ok Tryz.func171 (by kernel_rfl) (by kernel_rfl), from_ok fun l => (h.mul l).2⟩
  · exact spec0_ok f sp hs
def EA : Env := mkEnv Tryz.prog tyTree fnTree ext0 specA
theorem EA_ok (h : FI X) : EnvOK Tryz.prog X EA := mkEnv_ok mixed_ok tys_ok fns_ok names_ok ext0_ok (specA_ok h)
def opD (tag : Nat) : List (Nat × Look) := [(0, ⟨vars 12 4, [], [.ext tag (vars 4 12)], []⟩)]
theorem mulE_chk : chkFn (execCall EA 3000 135 (opS 1).args (opS 1).start) (opS 1) (opD 1) = true := by kernel_rfl
theorem addE_chk : chkFn (execCall EA 3000 136 (opS 3).args (opS 3).start) (opS 3) (opD 3) = true := by kernel_rfl
theorem subE_chk : chkFn (execCall EA 3000 137 (opS 2).args (opS 2).start) (opS 2) (opD 2) = true := by kernel_rfl
theorem op_end (tag : Nat) : ∀ d ∈ opD tag, EndP X (opS tag) d.1 d.2 := fun d hd => by
  simp only [opD, List.mem_singleton] at hd
  subst hd
  exact endP_same _ tag _ (vars 4 12) rfl rfl (by simp) fun ρ => by kernel_rfl
theorem mulE_ok (h : FI X) : SpecOK Tryz.prog X 135 (opS 1).spec := fn_sum (EA_ok h) mulE_chk (op_end 1)
theorem addE_ok (h : FI X) : SpecOK Tryz.prog X 136 (opS 3).spec := fn_sum (EA_ok h) addE_chk (op_end 3)
theorem subE_ok (h : FI X) : SpecOK Tryz.prog X 137 (opS 2).spec := fn_sum (EA_ok h) subE_chk (op_end 2)
theorem sqrE_chk : chkFn (execCall EA 3000 159 sqrS.args sqrS.start) sqrS [(0, ⟨vars 8 4, [], [.ext 1 (vars 4 4 ++ vars 4 8)], []⟩)] = true := by kernel_rfl
theorem sqrE_ok (h : FI X) : SpecOK Tryz.prog X 159 sqrS.spec := fn_sum (EA_ok h) sqrE_chk fun d hd => by
  simp only [List.mem_singleton] at hd
  subst hd
  exact endP_same _ 1 _ (vars 4 4 ++ vars 4 8) rfl rfl (by simp) fun ρ => by kernel_rfl
theorem none_end {s : Sm} {o : SmO} (ho : s.outs = [o]) (hp : o.post = []) : ∀ d ∈ [((0 : Nat), (⟨[], [], [], []⟩ : Look))], EndP X s d.1 d.2 := fun d hd => by
  simp only [List.mem_singleton] at hd
  subst hd
  exact endP_none o (by rw [ho]; rfl) hp
theorem setE_chk : chkFn (execCall EA 3000 139 setS.args setS.start) setS [(0, ⟨[], [], [], []⟩)] = true := by kernel_rfl
theorem setE_ok (h : FI X) : SpecOK Tryz.prog X 139 setS.spec := fn_sum (EA_ok h) setE_chk (none_end rfl rfl)
theorem oneE_chk : chkFn (execCall EA 3000 47 oneS.args oneS.start) oneS [(0, ⟨[], [], [], []⟩)] = true := by kernel_rfl
theorem oneE_ok (h : FI X) : SpecOK Tryz.prog X 47 oneS.spec := fn_sum (EA_ok h) oneE_chk (none_end rfl rfl)
theorem newP_chk : chkFn (execCall EA 3000 28 newPS.args newPS.start) newPS [(0, ⟨[], [], [], []⟩)] = true := by kernel_rfl
theorem newP_ok (h : FI X) : SpecOK Tryz.prog X 28 newPS.spec := fn_sum (EA_ok h) newP_chk (none_end rfl rfl)
def specB (f : FuncId) : Option (Fs) :=
  match f with
  | 135 => some (opS 1).spec | 136 => some (opS 3).spec | 137 => some (opS 2).spec | 159 => some sqrS.spec | 139 => some setS.spec | 28 => some newPS.spec
  | f => specA f
theorem specB_ok (h : FI X) : ∀ f sp, specB f = some sp -> FnOK Tryz.prog f /\ SpecOK Tryz.prog X f sp := fun f sp hs => by
  unfold specB at hs
  split at hs
  · simp only [Option.some.injEq] at hs; subst hs; exact ⟨fn_ok Tryz.func135 (by kernel_rfl) (by kernel_rfl), mulE_ok h⟩
  · simp only [Option.some.injEq] at hs; subst hs; exact ⟨fn_ok Tryz.func136 (by kernel_rfl) (by kernel_rfl), addE_ok h⟩
  · simp only [Option.some.injEq] at hs; subst hs; exact ⟨fn_ok Tryz.func137 (by kernel_rfl) (by kernel_rfl), subE_ok h⟩
  · simp only [Option.some.injEq] at hs; subst hs; exact ⟨fn_ok Tryz.func159 (by kernel_rfl) (by kernel_rfl), sqrE_ok h⟩
  · simp only [Option.some.injEq] at hs; subst hs; exact ⟨fn_ok Tryz.func139 (by kernel_rfl) (by kernel_rfl), setE_ok h⟩
  · simp only [Option.some.injEq] at hs; subst hs; exact ⟨fn_ok Tryz.func28 (by kernel_rfl) (by kernel_rfl), newP_ok h⟩
  · exact specA_ok h f sp hs
def EB : Env := mkEnv Tryz.prog tyTree fnTree ext0 specB
theorem EB_ok (h : FI X) : EnvOK Tryz.prog X EB := mkEnv_ok mixed_ok tys_ok fns_ok names_ok ext0_ok (specB_ok h)
end Go.Proofs.YtmogojlijkddpaaGreat
end
