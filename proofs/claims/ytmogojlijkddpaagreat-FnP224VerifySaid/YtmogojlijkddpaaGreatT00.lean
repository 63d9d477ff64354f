/- The proof of laws.FnP224Verify, text 1 of 36. Conditions: none. -/
import Derived.Orders
import Derived.Tactics
import Derived.Laws.Sem
import Derived.Laws.IdiomCopy
noncomputable section

set_option maxRecDepth 100000
namespace Go.Vm
inductive Tr (α : Type) where
  | nil
  | node (l : Tr α) (v : Option α) (r : Tr α)
def pathGo : Nat -> Nat -> List Bool
  | 0, _ => []
  | f + 1, k => if k = 0 then [] else (k % 2 == 1) :: pathGo f ((k - 1) / 2)
def pathC (k : Nat) : List Bool := pathGo k k
def path (k : Nat) : List Bool := Nat.rec (motive := fun _ => Nat -> List Bool) (fun k => pathGo k k) (fun _ ih k => Nat.rec (motive := fun _ => List Bool) [] (fun j _ => Nat.beq (Nat.land j 1) 0 :: ih (Nat.shiftRight j 1)) k) 24 k
def Tr.getC {α : Type} : Tr α -> List Bool -> Option α
  | .nil, _ => none
  | .node _ v _, [] => v
  | .node l _ r, b :: p => match b with | true => l.getC p | false => r.getC p
def Tr.get {α : Type} (t : Tr α) (p : List Bool) : Option α := List.rec (motive := fun _ => Tr α -> Option α) (fun t => Tr.rec (motive := fun _ => Option α) none (fun _ v _ _ _ => v) t) (fun b _ ih t => Tr.rec (motive := fun _ => Option α) none (fun l _ r _ _ => ih (Bool.rec r l b)) t) p t
def Tr.setC {α : Type} (x : α) : List Bool -> Tr α -> Tr α
  | [], .nil => .node .nil (some x) .nil
  | [], .node l _ r => .node l (some x) r
  | true :: p, .nil => .node (Tr.setC x p .nil) none .nil
  | false :: p, .nil => .node .nil none (Tr.setC x p .nil)
  | true :: p, .node l v r => .node (Tr.setC x p l) v r
  | false :: p, .node l v r => .node l v (Tr.setC x p r)
def Tr.set {α : Type} (x : α) (p : List Bool) (t : Tr α) : Tr α := List.rec (motive := fun _ => Tr α -> Tr α) (fun t => Tr.rec (motive := fun _ => Tr α) (.node .nil (some x) .nil) (fun l _ r _ _ => .node l (some x) r) t)
  (fun b _ ih t => Tr.rec (motive := fun _ => Tr α) (Bool.rec (.node .nil none (ih .nil)) (.node (ih .nil) none .nil) b) (fun l v r _ _ => Bool.rec (.node l v (ih r)) (.node (ih l) v r) b) t) p t
def Tr.delC {α : Type} : List Bool -> Tr α -> Tr α
  | _, .nil => .nil
  | [], .node l _ r => .node l none r
  | true :: p, .node l v r => .node (Tr.delC p l) v r
  | false :: p, .node l v r => .node l v (Tr.delC p r)
def Tr.del {α : Type} (p : List Bool) (t : Tr α) : Tr α := List.rec (motive := fun _ => Tr α -> Tr α) (fun t => Tr.rec (motive := fun _ => Tr α) .nil (fun l _ r _ _ => .node l none r) t)
  (fun b _ ih t => Tr.rec (motive := fun _ => Tr α) .nil (fun l v r _ _ => Bool.rec (.node l v (ih r)) (.node (ih l) v r) b) t) p t
inductive IE where
  | const (n : Int)
  | var (i : Nat)
  | add (a b : IE)
  | sub (a b : IE)
  | mul (a b : IE)
  | bin (op : BinOp) (k : IntKind) (a b : IE)
  | wrap (k : IntKind) (a : IE)
  | pick (i : IE) (n : Nat) (a b : IE)
inductive BE where
  | cmp (op : BinOp) (a b : IE)
  | not (b : BE)
inductive SV where
  | int (k : IntKind) (e : IE)
  | bool (b : Bool)
  | bexp (e : BE)
  | ptr (b off : Nat)
  | nilp
  | slice (b off len cap : Nat)
  | nils
  | view (b off len : Nat)
  | vptr (b off : Nat)
  | sptr (vw : Bool) (b off stride : Nat) (e : IE)
  | lslice (vw : Bool) (b off : Nat) (e : IE) (cap : Nat)
  | agg (l : List SV)
  | tup (l : List SV)
  | iface (t : TypeId) (v : SV)
  | val (v : Value)
inductive Con where
  | eq (d : Nat) (e : IE)
  | add64 (s c : Nat) (x y z : IE)
  | sub64 (s c : Nat) (x y z : IE)
  | mul64 (hi lo : Nat) (x y : IE)
  | test (e : BE) (b : Bool)
  | ext (tag : Nat) (l : List IE)
structure Blk where
  ty : TypeId
  cells : List SV
  full : Bool
structure St where
  tmps : Tr SV
  nt : Nat
  mem : Tr Blk
  nb : Nat
  nv : Nat
  bd : Tr (Int × Int)
  al : List Nat
  wr : List Nat
  cons : List Con
  its : Tr (ByteArray × Nat) := .nil
  lens : List (Nat × Nat) := []
inductive TD where
  | int (k : IntKind) | bool | string
  | ptr (elem : TypeId) | slice (elem : TypeId) | array (n : Nat) (elem : TypeId)
  | struct (fs : List (Nat × TypeId))
  | iface (empty : Bool)
  | other
structure TI where
  d : TD
  size : Nat
  bytes : Nat
  zero : List SV
inductive Out where
  | normal | exit (id : Nat) | ret
abbrev Tk := Nat -> List Int -> Prop
abbrev Fs := List SV -> St -> Option (List (SV × St))
abbrev Bs := St -> Option (List (Out × St))
structure Env where
  ty : TypeId -> Option TI
  meth : TypeId -> String -> Option FuncId
  fn : FuncId -> Option Func
  ext : FuncId -> Option (List SV -> St -> Option (SV × St))
  spec : FuncId -> Option (Fs)
def ofValue : Value -> SV
  | .int k n => .int k (.const n)
  | .bool b => .bool b
  | .pointer none => .nilp
  | .slice none 0 0 => .nils
  | v => .val v
def opd (S : St) : Operand -> Option SV
  | .tmp t => S.tmps.get (path t)
  | .const v => some (ofValue v)
  | .func f => some (.val (.func (.func f) #[] #[]))
  | .global _ => none
def SV.cells : SV -> List SV
  | .agg l => l
  | v => [v]
def intBin (op : BinOp) (k : IntKind) (x y : Int) : Int :=
  match op with
  | .add => k.wrap (x + y)
  | .sub => k.wrap (x - y)
  | .mul => k.wrap (x * y)
  | .and => k.wrap ((BitVec.ofInt k.bits x &&& BitVec.ofInt k.bits y).toNat : Int)
  | .or => k.wrap ((BitVec.ofInt k.bits x ||| BitVec.ofInt k.bits y).toNat : Int)
  | .xor => k.wrap ((BitVec.ofInt k.bits x ^^^ BitVec.ofInt k.bits y).toNat : Int)
  | .andNot => k.wrap ((BitVec.ofInt k.bits x &&& ~~~BitVec.ofInt k.bits y).toNat : Int)
  | .quo => k.wrap (x.tdiv y)
  | .rem => x.tmod y
  | .shl => k.wrap (x * 2 ^ (min y.toNat k.bits))
  | .shr => x.fdiv (2 ^ (min y.toNat k.bits))
  | _ => 0
def intCmp (op : BinOp) (x y : Int) : Bool :=
  match op with
  | .eql => x == y
  | .neq => x != y
  | .lss => decide (x < y)
  | .leq => decide (x <= y)
  | .gtr => decide (x > y)
  | .geq => decide (x >= y)
  | _ => false
def rngBin (op : BinOp) (k : IntKind) (a b : Int × Int) (y : IE) : Option (Int × Int) :=
  match op with
  | .and => if 0 <= a.1 && a.2 <= k.max then (if 0 <= b.1 && b.2 <= k.max then some (0, min a.2 b.2) else some (0, a.2)) else if 0 <= b.1 && b.2 <= k.max then some (0, b.2) else some (k.min, k.max)
  | .or | .xor =>
    if 0 <= a.1 && 0 <= b.1 && a.2 <= k.max && b.2 <= k.max then
      (if (2 ^ ((max a.2 b.2).toNat.log2 + 1) : Nat) - 1 <= k.max then some (0, (2 ^ ((max a.2 b.2).toNat.log2 + 1) : Nat) - 1) else some (k.min, k.max))
    else some (k.min, k.max)
  | .add | .sub | .mul | .andNot | .shl => some (k.min, k.max)
  | .quo => match y with | .const (.ofNat (n + 1)) => if 0 <= a.1 && a.2 <= k.max then some (a.1 / ((n : Int) + 1), a.2 / ((n : Int) + 1)) else some (k.min, k.max) | _ => some (k.min, k.max)
  | .shr => match y with | .const (.ofNat n) => some (a.1 / (2 ^ (min n k.bits)), a.2 / (2 ^ (min n k.bits))) | _ => if 0 <= a.1 && 0 <= b.1 then some (0, a.2) else none
  | .rem => match y with | .const (.ofNat (n + 1)) => if 0 <= a.1 then some (0, min a.2 n) else none | _ => none
  | _ => none
def rng (bd : Tr (Int × Int)) : IE -> Option (Int × Int)
  | .const n => some (n, n)
  | .var i => bd.get (path i)
  | .add a b => match rng bd a, rng bd b with | some x, some y => some (x.1 + y.1, x.2 + y.2) | _, _ => none
  | .sub a b => match rng bd a, rng bd b with | some x, some y => some (x.1 - y.2, x.2 - y.1) | _, _ => none
  | .mul a b => match rng bd a, rng bd b with
    | some x, some y =>
      if 0 <= x.1 && 0 <= y.1 then some (x.1 * y.1, x.2 * y.2)
      else some (min (min (x.1 * y.1) (x.1 * y.2)) (min (x.2 * y.1) (x.2 * y.2)), max (max (x.1 * y.1) (x.1 * y.2)) (max (x.2 * y.1) (x.2 * y.2)))
    | _, _ => none
  | .bin op k a b => match rng bd a, rng bd b with | some x, some y => rngBin op k x y b | _, _ => none
  | .wrap k _ => some (k.min, k.max)
  | .pick _ _ a b => match rng bd a, rng bd b with | some x, some y => some (min x.1 y.1, max x.2 y.2) | _, _ => none
def within (k : IntKind) (r : Option (Int × Int)) : Bool :=
  match r with
  | some (l, h) => decide (k.min <= l) && decide (h <= k.max)
  | none => false
def exact (op : BinOp) (k : IntKind) (a b : IE) : Option IE :=
  match op, b with
  | .add, _ => some (.add a b)
  | .sub, _ => some (.sub a b)
  | .mul, _ => some (.mul a b)
  | .shl, .const (.ofNat n) => some (.mul a (.const (2 ^ (min n k.bits))))
  | _, _ => none
def ieSame : IE -> IE -> Bool
  | .const a, .const b => a == b
  | .var a, .var b => a == b
  | .add a b, .add c d => ieSame a c && ieSame b d
  | .sub a b, .sub c d => ieSame a c && ieSame b d
  | .mul a b, .mul c d => ieSame a c && ieSame b d
  | .bin o k a b, .bin o' k' c d => o == o' && k == k' && ieSame a c && ieSame b d
  | .wrap k a, .wrap k' b => k == k' && ieSame a b
  | .pick i n a b, .pick i' n' c d => ieSame i i' && n == n' && ieSame a c && ieSame b d
  | _, _ => false
def simp64 (bd : Tr (Int × Int)) (op : BinOp) (a b : IE) : Option IE :=
  match op with
  | .and => match a with
    | .const n => if n == 0 then some (.const 0) else if n == 18446744073709551615 && within .u64 (rng bd b) then some b else none
    | _ => none
  | .xor => match b with
    | .const n => if n == 0 && within .u64 (rng bd a) then some a else none
    | .bin .xor .u64 a' c => if ieSame a' a && within .u64 (rng bd a) && within .u64 (rng bd c) then some c else none
    | _ => none
  | _ => none
def mkBin (bd : Tr (Int × Int)) (op : BinOp) (k : IntKind) (a b : IE) : IE :=
  match a, b with
  | .const x, .const y => .const (intBin op k x y)
  | _, _ =>
    match (if k == .u64 then simp64 bd op a b else none) with
    | some e => e
    | none =>
    match exact op k a b with
    | some e => if within k (rng bd e) then e else .bin op k a b
    | none => .bin op k a b
def mkWrap (bd : Tr (Int × Int)) (k : IntKind) (a : IE) : IE :=
  match a with
  | .const x => .const (k.wrap x)
  | _ => if within k (rng bd a) then a else .wrap k a
def cmpBy (op : BinOp) (a b : Int × Int) : Option Bool :=
  match op with
  | .lss => if a.2 < b.1 then some true else if b.2 <= a.1 then some false else none
  | .leq => if a.2 <= b.1 then some true else if b.2 < a.1 then some false else none
  | .gtr => if b.2 < a.1 then some true else if a.2 <= b.1 then some false else none
  | .geq => if b.2 <= a.1 then some true else if a.2 < b.1 then some false else none
  | .eql => if a.2 < b.1 || b.2 < a.1 then some false else if a.1 == a.2 && b.1 == b.2 && a.1 == b.1 then some true else none
  | .neq => if a.2 < b.1 || b.2 < a.1 then some true else if a.1 == a.2 && b.1 == b.2 && a.1 == b.1 then some false else none
  | _ => none
def mkCmp (bd : Tr (Int × Int)) (op : BinOp) (a b : IE) : SV :=
  match a, b with
  | .const x, .const y => .bool (intCmp op x y)
  | _, _ =>
    match rng bd a, rng bd b with
    | some x, some y => match cmpBy op x y with | some t => .bool t | none => .bexp (.cmp op a b)
    | _, _ => .bexp (.cmp op a b)
def binOk (op : BinOp) (b : IE) : Bool :=
  match op with
  | .add | .sub | .mul | .and | .or | .xor | .andNot => true
  | .quo | .rem => match b with | .const n => n != 0 | _ => false
  | .shl | .shr => match b with | .const n => decide (0 <= n) | _ => false
  | _ => false
def shOk (bd : Tr (Int × Int)) (b : IE) : Bool := match rng bd b with | some r => decide (0 <= r.1) | none => false
def isCmp : BinOp -> Bool
  | .eql | .neq | .lss | .leq | .gtr | .geq => true
  | _ => false
def isLit : Operand -> Bool
  | .const _ => true
  | _ => false
def binSV (E : Env) (bd : Tr (Int × Int)) (op : BinOp) (t : TypeId) (lx ly : Bool) : SV -> SV -> Option SV
  | .int k a, .int k' b =>
    match op with
    | .shl | .shr => if binOk op b || shOk bd b then some (.int k (mkBin bd op k a b)) else none
    | _ =>
      if k == k' then
        if isCmp op then some (mkCmp bd op a b)
        else if binOk op b then some (.int k (mkBin bd op k a b)) else none
      else none
  | .bool a, .bool b =>
    match E.ty t with
    | some ⟨.bool, _, _, _⟩ => match op with | .eql => some (.bool (a == b)) | .neq => some (.bool (!(a == b))) | _ => none
    | _ => none
  | .bool a, .bexp e | .bexp e, .bool a =>
    match E.ty t with
    | some ⟨.bool, _, _, _⟩ => match op with | .eql => some (.bexp (if a then e else .not e)) | .neq => some (.bexp (if a then .not e else e)) | _ => none
    | _ => none
  | .val (.string a), .val (.string b) =>
    match op with | .eql => some (.bool (a.data.toList == b.data.toList)) | .neq => some (.bool (!(a.data.toList == b.data.toList))) | _ => none
  | .iface _ _, .val .nilIface =>
    match E.ty t with
    | some ⟨.iface _, _, _, _⟩ => match op with | .eql => some (.bool false) | .neq => some (.bool true) | _ => none
    | _ => none
  | .val .nilIface, .val .nilIface =>
    if lx || ly then
      match E.ty t with
      | some ⟨.iface _, _, _, _⟩ => match op with | .eql => some (.bool true) | .neq => some (.bool false) | _ => none
      | _ => none
    else none
  | .slice _ _ _ _, .nils | .view _ _ _, .nils =>
    match E.ty t with
    | some ⟨.slice _, _, _, _⟩ => match op with | .eql => some (.bool false) | .neq => some (.bool true) | _ => none
    | _ => none
  | .nils, .nils =>
    match E.ty t with
    | some ⟨.slice _, _, _, _⟩ => match op with | .eql => some (.bool true) | .neq => some (.bool false) | _ => none
    | _ => none
  | .ptr _ _, .nilp =>
    match E.ty t with
    | some ⟨.ptr _, _, _, _⟩ => match op with | .eql => some (.bool false) | .neq => some (.bool true) | _ => none
    | _ => none
  | .nilp, .nilp =>
    match E.ty t with
    | some ⟨.ptr _, _, _, _⟩ => match op with | .eql => some (.bool true) | .neq => some (.bool false) | _ => none
    | _ => none
  | .val .nilFunc, .val .nilFunc =>
    match E.ty t with
    | some ⟨.other, _, _, _⟩ => match op with | .eql => some (.bool true) | .neq => some (.bool false) | _ => none
    | _ => none
  | _, _ => none
def constNat : SV -> Option Nat
  | .int _ (.const (.ofNat n)) => some n
  | _ => none
def isAggT (ti : TI) : Bool := match ti.d with | .struct _ | .array _ _ => true | _ => false
def partSV (E : Env) (t : TypeId) (l : List SV) (off : Nat) : Option SV := do
  let ti <- E.ty t
  if isAggT ti then
    if off + ti.size <= l.length then some (.agg ((l.drop off).take ti.size)) else none
  else l[off]?
def plainV : SV -> Bool
  | .val (.agg _) => false
  | _ => true
def fillSV (place : Nat -> Option (Nat × Nat)) (cells : List SV) : List (Nat × SV) -> Option (List SV)
  | [] => some cells
  | (i, v) :: rest =>
    match place i with
    | none => none
    | some (off, size) =>
      if v.cells.length ≠ size || off + v.cells.length > cells.length then none
      else fillSV place (cells.take off ++ v.cells ++ cells.drop (off + v.cells.length)) rest
def optMap {α β : Type} (f : α -> Option β) : List α -> Option (List β)
  | [] => some []
  | x :: xs => match f x, optMap f xs with | some y, some ys => some (y :: ys) | _, _ => none
def cellInt (k : IntKind) (cells : List SV) (i : Nat) : Option IE :=
  match cells[i]? with
  | some (.int k' a) => if k == k' then some a else none
  | _ => none
def pickC (k : IntKind) (cells : List SV) (off stride : Nat) (e : IE) : Nat -> Nat -> Option IE
  | 0, j => cellInt k cells (off + stride * j)
  | m + 1, j => match cellInt k cells (off + stride * j), pickC k cells off stride e m (j + 1) with | some a, some b => some (.pick e j a b) | _, _ => none
def symIdx (bd : Tr (Int × Int)) (n : Nat) (f : IE -> SV) : SV -> Option SV
  | .int _ e => match rng bd e with | some r => if 0 <= r.1 && decide (r.2 < n) then some (f e) else none | none => none
  | _ => none
def loadSV (E : Env) (bd : Tr (Int × Int)) (mem : Tr Blk) (t : TypeId) : SV -> Option SV
  | .ptr b off => do
    let ti <- E.ty t
    let blk <- mem.get (path b)
    if !blk.full then none else
    if isAggT ti then
      if off + ti.size <= blk.cells.length then some (.agg ((blk.cells.drop off).take ti.size)) else none
    else blk.cells[off]?
  | .vptr b off => do
    let ti <- E.ty t
    let blk <- mem.get (path b)
    if blk.full then none else
    if isAggT ti then none else blk.cells[off]?
  | .sptr vw b off stride e => do
    let ti <- E.ty t
    let blk <- mem.get (path b)
    if blk.full == vw then none else
    if isAggT ti then none else
    match rng bd e with
    | some (.ofNat l, .ofNat h) =>
      match blk.cells[off + stride * l]? with
      | some (.int k _) => if l <= h then (pickC k blk.cells off stride e (h - l) l).map (.int k) else none
      | _ => none
    | _ => none
  | _ => none
def leNat (v : SV) (y : Nat) : Option Nat :=
  match constNat v with
  | some n => if n <= y then some n else none
  | none => none
def sbMax (cap : Nat) : Option SV -> Option Nat
  | some v => leNat v cap
  | none => some cap
def sbHi (len m : Nat) : Option SV -> Option SV -> Option Nat
  | some v, _ => leNat v m
  | none, none => some len
  | none, some _ => none
def sbLo (h : Nat) : Option SV -> Option Nat
  | some v => leNat v h
  | none => some 0
def sliceBoundsSV (len cap : Nat) (lo hi mx : Option SV) : Option (Nat × Nat × Nat) :=
  match sbMax cap mx with
  | none => none
  | some m =>
    match sbHi len m hi mx with
    | none => none
    | some h =>
      match sbLo h lo with
      | none => none
      | some l => some (l, h, m)
def optOpd (S : St) : Option Operand -> Option (Option SV)
  | none => some none
  | some x => (opd S x).map some
def lenSV (bd : Tr (Int × Int)) (i : Nat) : Option SV :=
  match bd.get (path i) with
  | some (l, h) => if decide (0 <= l) && decide (h <= 9223372036854775807) then some (.int .i64 (.var i)) else none
  | none => none
theorem lenSV_spec {bd : Tr (Int × Int)} {i : Nat} {v : SV} (h : lenSV bd i = some v) : v = .int .i64 (.var i) /\ ∃ l u, bd.get (path i) = some (l, u) /\ 0 <= l /\ u <= 9223372036854775807 := by
  unfold lenSV at h
  split at h
  · rename_i l u hb
    split at h
    · rename_i hc
      simp only [Bool.and_eq_true, decide_eq_true_eq] at hc
      simp only [Option.some.injEq] at h
      exact ⟨h.symm, l, u, hb, hc.1, hc.2⟩
    · cases h
  · cases h
def pureBuiltin (E : Env) (S : St) (b : Builtin) (args : List Operand) (argTypes : List TypeId) : Option SV :=
  match b, args, argTypes with
  | .len, [x], [t] =>
    match E.ty t, opd S x with
    | some ⟨.slice _, _, _, _⟩, some (.slice _ _ n _) => some (.int .i64 (.const n))
    | some ⟨.slice _, _, _, _⟩, some .nils => some (.int .i64 (.const 0))
    | some ⟨.slice _, _, _, _⟩, some (.view _ _ n) => some (.int .i64 (.const n))
    | some ⟨.slice _, _, _, _⟩, some (.lslice _ _ _ (.var i) _) => lenSV S.bd i
    | some ⟨.string, _, _, _⟩, some (.val (.string s)) => some (.int .i64 (.const s.size))
    | some ⟨.array n _, _, _, _⟩, some _ => some (.int .i64 (.const n))
    | _, _ => none
  | .cap, [x], [t] =>
    match E.ty t, opd S x with
    | some ⟨.slice _, _, _, _⟩, some (.slice _ _ _ n) => some (.int .i64 (.const n))
    | some ⟨.slice _, _, _, _⟩, some .nils => some (.int .i64 (.const 0))
    | _, _ => none
  | .max, [x, y], _ =>
    match opd S x, opd S y with
    | some (.int k (.const a)), some (.int _ (.const b)) => some (.int k (.const (if b > a then b else a)))
    | _, _ => none
  | _, _, _ => none
def pureOp (E : Env) (S : St) (o : Oper) : Option SV :=
  match o.op with
  | .move x => opd S x
  | .nilCheck x => do
    match <- opd S x with
    | .ptr b off => some (.ptr b off)
    | .val (.func (.func f) a b) => some (.val (.func (.func f) a b))
    | .vptr b off => some (.vptr b off)
    | _ => none
  | .binOp op t x y _ => do binSV E S.bd op t (isLit x) (isLit y) (<- opd S x) (<- opd S y)
  | .unOp op _ x => do
    match op, <- opd S x with
    | .neg, .int k a => some (.int k (mkBin S.bd .sub k (.const 0) a))
    | .xor, .int k a => some (.int k (mkBin S.bd .xor k (.const (if k.signed then -1 else k.max)) a))
    | .not, .bool b => some (.bool !b)
    | .not, .bexp b => some (.bexp (.not b))
    | _, _ => none
  | .convert s d x => do
    match E.ty s, E.ty d, <- opd S x with
    | some _, some ⟨.int k, _, _, _⟩, .int _ a => some (.int k (mkWrap S.bd k a))
    | _, _, _ => none
  | .makeInterface t x => do
    let ti <- E.ty t
    match ti.d with
    | .iface _ => none
    | _ => some (.iface t (<- opd S x))
  | .extract x i => do
    match <- opd S x with
    | .tup l => l[i]?
    | _ => none
  | .field t x f => do
    match E.ty t, <- opd S x with
    | some ⟨.struct fs, _, _, _⟩, .agg l => do
      let (off, ft) <- fs[f]?
      partSV E ft l off
    | _, _ => none
  | .index t x ix => do
    match E.ty t, <- opd S x, <- opd S ix with
    | some ⟨.array n elem, _, _, _⟩, .agg l, i => do
      let i <- constNat i
      let ei <- E.ty elem
      if i < n then partSV E elem l (i * ei.size) else none
    | some ⟨.string, _, _, _⟩, .val (.string s), i => do
      let i <- constNat i
      let b <- s[i]?
      some (.int .u8 (.const b.toNat))
    | _, _, _ => none
  | .pick c a b => do
    match <- opd S c with
    | .bool true => opd S a
    | .bool false => opd S b
    | _ => none
  | .build t parts => do
    let ti <- E.ty t
    let ps <- optMap (fun (i, x) => (opd S x).map fun v => (i, v)) parts.toList
    if !ps.all (fun p => plainV p.2) then none else
    match ti.d with
    | .struct fs => do
      let places <- optMap (fun (off, ft) => (E.ty ft).map fun fi => (off, fi.size)) fs
      let cells <- fillSV (places[·]?) ti.zero ps
      some (.agg cells)
    | .array _ elem => do
      let ei <- E.ty elem
      let cells <- fillSV (fun i => some (i * ei.size, ei.size)) ti.zero ps
      some (.agg cells)
    | _ => none
  | .load t a => do loadSV E S.bd S.mem t (<- opd S a)
  | .fieldAddr t x f => do
    match E.ty t, <- opd S x with
    | some ⟨.struct fs, _, _, _⟩, .ptr b off => do
      let (fo, ft) <- fs[f]?
      let fi <- E.ty ft
      if fi.size = 0 then none else some (.ptr b (off + fo))
    | _, _ => none
  | .indexAddr t x ix => do
    match E.ty t, <- opd S x, <- opd S ix with
    | some ⟨.array n elem, _, _, _⟩, .ptr b off, i => do
      let ei <- E.ty elem
      match constNat i with
      | some i => if i < n then some (.ptr b (off + i * ei.size)) else none
      | none => symIdx S.bd n (.sptr false b off ei.size) i
    | some ⟨.slice elem, _, _, _⟩, .slice b off len _, i => do
      let ei <- E.ty elem
      match constNat i with
      | some i => if i < len then some (.ptr b (off + i * ei.size)) else none
      | none => symIdx S.bd len (.sptr false b off ei.size) i
    | some ⟨.slice elem, _, _, _⟩, .view b off len, i => do
      let ei <- E.ty elem
      if ei.size == 1 then
        match constNat i with
        | some i => if i < len then some (.vptr b (off + i)) else none
        | none => symIdx S.bd len (.sptr true b off 1) i
      else none
    | some ⟨.array n elem, _, _, _⟩, .vptr b off, i => do
      let ei <- E.ty elem
      match constNat i with
      | some i => if i < n then some (.vptr b (off + i * ei.size)) else none
      | none => none
    | _, _, _ => none
  | .slice t x lo hi mx => do
    let lo <- optOpd S lo
    let hi <- optOpd S hi
    let mx <- optOpd S mx
    match E.ty t, <- opd S x with
    | some ⟨.array n elem, _, _, _⟩, .ptr b off => do
      let (l, h, m) <- sliceBoundsSV n n lo hi mx
      let ei <- E.ty elem
      some (.slice b (if m = l then off else off + l * ei.size) (h - l) (m - l))
    | some ⟨.slice elem, _, _, _⟩, .slice b off len cap => do
      let (l, h, m) <- sliceBoundsSV len cap lo hi mx
      let ei <- E.ty elem
      some (.slice b (if m = l then off else off + l * ei.size) (h - l) (m - l))
    | some ⟨.slice elem, _, _, _⟩, .view b off len => do
      let (l, h, _) <- sliceBoundsSV len len lo hi none
      let ei <- E.ty elem
      let blk <- S.mem.get (path b)
      if mx.isNone && !blk.full && ei.size == 1 && decide (l < len) && decide (off + len <= blk.cells.length) then some (.view b (off + l) (h - l)) else none
    | _, _ => none
  | .call c =>
    match c.callee with
    | .builtin b => pureBuiltin E S b c.args.toList c.argTypes.toList
    | _ => none
  | _ => none
def newRng (op : BinOp) (b : Bool) (n : Int) (r : Int × Int) : Int × Int :=
  match op, b with
  | .geq, true | .lss, false => (max r.1 n, r.2)
  | .leq, true | .gtr, false => (r.1, min r.2 n)
  | .gtr, true | .leq, false => (max r.1 (n + 1), r.2)
  | .lss, true | .geq, false => (r.1, min r.2 (n - 1))
  | .eql, true | .neq, false => (max r.1 n, min r.2 n)
  | _, _ => r
def refB (bd : Tr (Int × Int)) : BE -> Bool -> Tr (Int × Int)
  | .cmp op (.var i) (.const n), b => match bd.get (path i) with | some r => Tr.set (newRng op b n r) (path i) bd | none => bd
  | .not e, b => refB bd e (!b)
  | _, _ => bd
def St.learn (S : St) (e : BE) (b : Bool) : St := { S with bd := refB S.bd e b, cons := .test e b :: S.cons }
def St.put (S : St) (dst : Option Tmp) (v : SV) : St :=
  match dst with
  | some d => { S with tmps := Tr.set v (path d) S.tmps }
  | none => S
def okDst (S : St) : Option Tmp -> Bool
  | some d => decide (d < S.nt)
  | none => true
def setBd (bd : Tr (Int × Int)) (i : Nat) (r : Option (Int × Int)) : Tr (Int × Int) :=
  match r with
  | some r => Tr.set r (path i) bd
  | none => bd
def nameNew (S : St) (e : IE) : IE × St := (.var S.nv, { S with nv := S.nv + 1, bd := setBd S.bd S.nv (rng S.bd e), cons := .eq S.nv e :: S.cons })
def nameIE (S : St) (e : IE) : IE × St :=
  match e with
  | .const n => (.const n, S)
  | .var i => (.var i, S)
  | e => nameNew S e
def name1 (S : St) : SV -> SV × St
  | .int k e => let (e, S) := nameIE S e; (.int k e, S)
  | v => (v, S)
def nameL (S : St) : List SV -> List SV × St
  | [] => ([], S)
  | v :: vs => let (v, S) := name1 S v; let (vs, S) := nameL S vs; (v :: vs, S)
def nameV (S : St) : SV -> SV × St
  | .agg l => let (l, S) := nameL S l; (.agg l, S)
  | .tup l => let (l, S) := nameL S l; (.tup l, S)
  | v => name1 S v
def St.new (S : St) (ty : TypeId) (cells : List SV) : Nat × St :=
  (S.nb, { S with nb := S.nb + 1, mem := Tr.set ⟨ty, cells, true⟩ (path S.nb) S.mem })
def St.newPart (S : St) (ty : TypeId) (cells : List SV) : St :=
  { S with nb := S.nb + 1, mem := Tr.set ⟨ty, cells, false⟩ (path S.nb) S.mem }
def emptySl : SV -> Bool
  | .nils => true
  | .slice _ _ 0 0 => true
  | _ => false
def setAt (l : List SV) (i : Nat) (vs : List SV) : List SV := l.take i ++ vs ++ l.drop (i + vs.length)
def drops (b : Nat) (m : Tr Blk) : List Nat -> Tr Blk
  | [] => m
  | c :: cs => drops b (if c = b then m else Tr.del (path c) m) cs
def noAgg : SV -> Bool
  | .agg _ | .tup _ => false
  | .val (.agg _) | .val (.tuple _) => false
  | _ => true
def St.write (S : St) (b off : Nat) (vs : List SV) : Option St := do
  let blk <- S.mem.get (path b)
  if blk.full && decide (off + vs.length <= blk.cells.length) && vs.all noAgg then
    let m := Tr.set { blk with cells := setAt blk.cells off vs } (path b) S.mem
    if S.al.contains b then some { S with mem := drops b m S.al, al := [], wr := b :: S.wr, lens := [] }
    else some { S with mem := m, wr := b :: S.wr }
  else none
def effBuiltin (E : Env) (S : St) (b : Builtin) (args : List Operand) (argTypes : List TypeId) : Option (SV × St) :=
  match b, args, argTypes with
  | .copy, [d, s], t :: _ =>
    match E.ty t, opd S d, opd S s with
    | some ⟨.slice elem, _, _, _⟩, some (.slice b off dl _), some (.slice b' off' sl _) =>
      match E.ty elem, S.mem.get (path b') with
      | some ei, some blk =>
        if blk.full && decide (off' + Nat.min sl dl * ei.size <= blk.cells.length) then
          match S.write b off ((blk.cells.drop off').take (Nat.min sl dl * ei.size)) with
          | some S' => some (.int .i64 (.const (Nat.min sl dl)), S')
          | none => none
        else none
      | _, _ => none
    | some ⟨.slice elem, _, _, _⟩, some (.slice b off dl _), some (.view b' off' sl) =>
      match E.ty elem, S.mem.get (path b') with
      | some ei, some blk =>
        if !blk.full && ei.size == 1 && decide (off' + Nat.min sl dl <= blk.cells.length) then
          match S.write b off ((blk.cells.drop off').take (Nat.min sl dl)) with
          | some S' => some (.int .i64 (.const (Nat.min sl dl)), S')
          | none => none
        else none
      | _, _ => none
    | _, _, _ => none
  | .clear, [x], t :: _ =>
    match E.ty t, opd S x with
    | some ⟨.slice elem, _, _, _⟩, some (.slice b off n _) =>
      match E.ty elem with
      | some ei =>
        if n = 0 then some (.tup [], S) else
        match S.write b off (List.replicate n ei.zero).flatten with
        | some S' => some (.tup [], S')
        | none => none
      | none => none
    | _, _ => none
  | .append, [d, s], [t, t'] =>
    match E.ty t, E.ty t', opd S d, opd S s with
    | some ⟨.slice elem, _, _, _⟩, some ⟨.slice _, _, _, _⟩, some (.slice b off dl cap), some (.slice b' off' sl _) =>
      match E.ty elem, S.mem.get (path b') with
      | some ei, some blk =>
        if blk.full && (dl + sl <= cap && decide (off' + sl * ei.size <= blk.cells.length)) then
          match S.write b (off + dl * ei.size) ((blk.cells.drop off').take (sl * ei.size)) with
          | some S' => some (.slice b off (dl + sl) cap, S')
          | none => none
        else none
      | _, _ => none
    | some ⟨.slice elem, _, _, _⟩, some ⟨.slice _, _, _, _⟩, some d, some (.view b' off' sl) =>
      match E.ty elem, S.mem.get (path b') with
      | some ei, some blk =>
        if t == t' && emptySl d && !blk.full && ei.size == 1 && decide (0 < sl) && decide (sl * ei.bytes <= 2 ^ 40) && decide (sl <= 2 ^ 40) && decide (off' + sl <= blk.cells.length) then
          some (.view S.nb 0 sl, S.newPart elem ((blk.cells.drop off').take sl))
        else none
      | _, _ => none
    | some ⟨.slice elem, _, _, _⟩, some ⟨.slice _, _, _, _⟩, some d, some (.lslice true b' 0 (.var i) _) =>
      match E.ty elem, S.mem.get (path b'), S.bd.get (path i) with
      | some ei, some blk, some (lo, hi) =>
        if t == t' && emptySl d && !blk.full && ei.size == 1 && decide (0 < lo) && decide (hi * ei.bytes <= 2 ^ 40) && decide (hi <= 2 ^ 40) && S.lens.any (fun x => x.1 == b' && x.2 == i) then
          some (.lslice true S.nb 0 (.var i) 0, { S.newPart elem [] with lens := (S.nb, i) :: S.lens })
        else none
      | _, _, _ => none
    | _, _, _, _ => none
  | _, _, _ => none
def effOp (E : Env) (S : St) (o : Oper) : Option (SV × St) :=
  match o.op with
  | .assign x => do some (nameV S (<- opd S x))
  | .alloc t => do
    let ti <- E.ty t
    let (b, S) := S.new t ti.zero
    some (.ptr b 0, S)
  | .box t x => do
    let u <- opd S x
    if !plainV u then none else do
    let (v, S) := nameV S u
    let (b, S) := S.new t v.cells
    some (.ptr b 0, S)
  | .buildSlice t len parts => do
    let ti <- E.ty t
    match ti.d with
    | .slice elem => do
      let ei <- E.ty elem
      let ps <- optMap (fun (i, x) => (opd S x).map fun v => (i, v)) parts.toList
      if !ps.all (fun p => plainV p.2) then none else
      if len * ei.size > 2 ^ 24 then none else do
      let cells <- fillSV (fun i => some (i * ei.size, ei.size)) (List.replicate len ei.zero).flatten ps
      let (cells, S) := nameL S cells
      let (b, S) := S.new elem cells
      some (.slice b 0 len len, S)
    | _ => none
  | .makeSlice t l c => do
    let ti <- E.ty t
    match ti.d with
    | .slice elem => do
      let ei <- E.ty elem
      let l <- constNat (<- opd S l)
      let c <- constNat (<- opd S c)
      if l <= c && decide (c * ei.bytes <= 2 ^ 40) && decide (c <= 2 ^ 40) then do
        let (b, S) := S.new elem (List.replicate c ei.zero).flatten
        some (.slice b 0 l c, S)
      else none
    | _ => none
  | .store t a x => do
    let ti <- E.ty t
    let (v, S) := nameV S (<- opd S x)
    match <- opd S a with
    | .ptr b off => do
      if v.cells.length = ti.size && plainV v then do
        let S <- S.write b off v.cells
        some (.val (.tuple #[]), S)
      else none
    | _ => none
  | .range t x =>
    match E.ty t, opd S x with
    | some ⟨.string, _, _, _⟩, some (.val (.string s)) => some (.ptr S.nb 0, { S with nb := S.nb + 1, its := Tr.set (s, 0) (path S.nb) S.its })
    | _, _ => none
  | .next it isStr =>
    match isStr, opd S it with
    | true, some (.ptr b 0) =>
      match S.its.get (path b) with
      | some (s, p) =>
        match s[p]? with
        | some x => if x.toNat < 128 then some (.tup [.bool true, .int .i64 (.const p), .int .i32 (.const x.toNat)], { S with its := Tr.set (s, p + 1) (path b) .nil, wr := b :: S.wr }) else none
        | none => some (.tup [.bool false], S)
      | none => none
    | _, _ => none
  | .call c =>
    match c.callee with
    | .builtin b => effBuiltin E S b c.args.toList c.argTypes.toList
    | _ => none
  | _ => none
def bindL {α β : Type} (l : List α) (f : α -> Option (List β)) : Option (List β) :=
  match l with
  | [] => some []
  | x :: xs => match f x, bindL xs f with | some a, some b => some (a ++ b) | _, _ => none
def initTmps : Nat -> List SV -> Tr SV -> Tr SV
  | _, [], t => t
  | i, v :: vs, t => initTmps (i + 1) vs (Tr.set v (path i) t)
def cellRes (E : Env) (S : St) (t : TypeId) : SV -> Option SV
  | .ptr b off => loadSV E S.bd S.mem t (.ptr b off)
  | _ => none
def resultOf (E : Env) (S : St) : ResultVar -> Option SV
  | .tmp t => S.tmps.get (path t)
  | .cell p t => match S.tmps.get (path p) with | some u => cellRes E S t u | none => none
def resultSV (E : Env) (fn : Func) (S : St) : Option SV := do
  let vs <- optMap (resultOf E S) fn.results.toList
  match vs with
  | [v] => some v
  | vs => some (.tup vs)
def funcOf : SV -> Option FuncId
  | .val (.func (.func f) a b) => if a.isEmpty && b.isEmpty then some f else none
  | _ => none
def calleeOf (E : Env) (S : St) (o : Oper) : Option (FuncId × List SV) :=
  match o.op with
  | .call c =>
    match c.callee with
    | .value f =>
      match opd S f with
      | some u =>
        match funcOf u, optMap (opd S) c.args.toList with
        | some f, some args => some (f, args)
        | _, _ => none
      | none => none
    | .invoke r name =>
      match opd S r, optMap (opd S) c.args.toList with
      | some (.iface t v), some args =>
        match E.meth t name with
        | some f => some (f, v :: args)
        | none => none
      | _, _ => none
    | .builtin _ => none
  | _ => none
inductive Gd where
  | yes | no
  | test (t : Tmp) (e : BE) (want : Bool)
def guardOf (ops : List Oper) (S : St) (o : Oper) : Option Gd :=
  match o.guard with
  | none => some .yes
  | some (j, want) =>
    match ops[j]? with
    | some p =>
      match p.dst with
      | some t =>
        match S.tmps.get (path t) with
        | some (.bool b) => some (if b == want then .yes else .no)
        | some (.tup []) => some .no
        | some (.bexp e) => some (.test t e want)
        | _ => none
      | none => none
    | none => none
def St.know (S : St) (t : Tmp) (e : BE) (b : Bool) : St := { S with tmps := Tr.set (.bool b) (path t) S.tmps, cons := .test e b :: S.cons }
def specOf (E : Env) (f : FuncId) (args : List SV) (S : St) : Option (List (SV × St)) :=
  match E.spec f with
  | some sp => sp args S
  | none => none
def beforeL : List Oper -> List Nat -> List Nat
  | [], acc => acc
  | o :: os, acc => beforeL os (acc ++ [o.after.toList.foldl (fun s e => if Region.binds .any e then s ||| 2 ^ e.on ||| acc.getD e.on 0 else s) 0])
def tmpsOf (o : Oper) : List Tmp := o.op.operands.toList.filterMap fun | .tmp u => some u | _ => none
def dstIs (o : Oper) (t : Tmp) : Bool := match o.dst with | some d => d == t | none => false
def apartOK (b : List Nat) (j : Nat) (o : Oper) (i : Nat) (p : Oper) : Bool :=
  match p.dst with
  | none => true
  | some d =>
    if i = j then !(tmpsOf o).contains d
    else !dstIs o d && (!(tmpsOf o).contains d || (b.getD j 0).testBit i || (b.getD i 0).testBit j)
def allIdx {α : Type} (f : Nat -> α -> Bool) : Nat -> List α -> Bool
  | _, [] => true
  | i, x :: xs => f i x && allIdx f (i + 1) xs
def beSame : BE -> BE -> Bool
  | .cmp o a b, .cmp o' c d => o == o' && ieSame a c && ieSame b d
  | .not a, .not b => beSame a b
  | _, _ => false
mutual
def SV.same : SV -> SV -> Bool
  | .int k a, .int k' b => k == k' && ieSame a b
  | .bool a, .bool b => a == b
  | .bexp a, .bexp b => beSame a b
  | .ptr b o, .ptr b' o' => b == b' && o == o'
  | .nilp, .nilp => true
  | .slice b o l c, .slice b' o' l' c' => b == b' && o == o' && l == l' && c == c'
  | .nils, .nils => true
  | .view b o l, .view b' o' l' => b == b' && o == o' && l == l'
  | .vptr b o, .vptr b' o' => b == b' && o == o'
  | .lslice w b o e c, .lslice w' b' o' e' c' => w == w' && b == b' && o == o' && ieSame e e' && c == c'
  | .sptr w b o s e, .sptr w' b' o' s' e' => w == w' && b == b' && o == o' && s == s' && ieSame e e'
  | .agg l, .agg l' => sameL l l'
  | .tup l, .tup l' => sameL l l'
  | .iface t v, .iface t' v' => t == t' && SV.same v v'
  | .val .nilIface, .val .nilIface => true
  | .val .nilFunc, .val .nilFunc => true
  | .val (.string a), .val (.string b) => a.data.toList == b.data.toList
  | .val (.func (.func f) a b), .val (.func (.func f') a' b') => f == f' && a.isEmpty && b.isEmpty && a'.isEmpty && b'.isEmpty
  | _, _ => false
def sameL : List SV -> List SV -> Bool
  | [], [] => true
  | v :: l, v' :: l' => SV.same v v' && sameL l l'
  | _, _ => false
end
def edgesOK (j : Nat) (o : Oper) : Bool := o.after.toList.all fun e => !Region.binds .any e || decide (e.on < j)
def edgesIn (o : Oper) (D : Nat) : Bool := o.after.toList.all fun e => !Region.binds .any e || D.testBit e.on
def warOK (b : List Nat) (ops : List Oper) (i : Nat) : Option Tmp -> Bool
  | none => true
  | some d => allIdx (fun j o => !(tmpsOf o).contains d || (b.getD j 0).testBit i) 0 ops
def guardIn (b : List Nat) (j : Nat) (o : Oper) : Bool := match o.guard with | none => true | some (g, _) => (b.getD j 0).testBit g
def drawOK (ops : List Oper) (S : St) : Bool :=
  let b := beforeL ops []
  allIdx (fun j o => (edgesOK j o && okDst S o.dst && guardIn b j o) && allIdx (fun i p => apartOK b j o i p) 0 ops) 0 ops
def recheck (E : Env) (b : List Nat) (ops : List Oper) (Pu j : Nat) (S : St) : Bool :=
  allIdx (fun i o => !Pu.testBit i || (b.getD j 0).testBit i ||
    match pureOp E S o with
    | none => false
    | some v => match o.dst with | none => true | some d => match S.tmps.get (path d) with | some u => SV.same v u | none => false) 0 ops
def noReader (ops : List Oper) (Pu : Nat) (t : Tmp) : Bool := allIdx (fun i o => !Pu.testBit i || !(tmpsOf o).contains t) 0 ops
def satD (E : Env) (all : List Oper) (b : List Nat) : Nat -> List Oper -> Nat -> Nat -> St -> Option (List (Nat × Nat × St))
  | _, [], D, Pu, S => some [(D, Pu, S)]
  | j, o :: rest, D, Pu, S =>
    if D.testBit j || !edgesIn o D then satD E all b (j + 1) rest D Pu S
    else
      let yes := fun (S : St) => match pureOp E S o with
        | some v => if warOK b all j o.dst then satD E all b (j + 1) rest (D ||| 2 ^ j) (Pu ||| 2 ^ j) (S.put o.dst v) else none
        | none => satD E all b (j + 1) rest D Pu S
      let no := fun (S : St) => if warOK b all j o.dst then satD E all b (j + 1) rest (D ||| 2 ^ j) Pu (S.put o.dst (.tup [])) else none
      match guardOf all S o with
      | some .yes => yes S
      | some .no => no S
      | some (.test t e want) =>
        if noReader all Pu t then
          match yes (S.know t e want), no (S.know t e (!want)) with
          | some x, some y => some (x ++ y)
          | _, _ => none
        else none
      | none => none
def gYes : Option Gd -> Bool
  | some .yes => true
  | _ => false
abbrev BSp := Nat -> Option (Bs)
mutual
def exec (E : Env) : Nat -> BSp -> Code -> Bs
  | 0, _, _, _ => none
  | n + 1, B, c, S =>
    match c with
    | .skip => some [(.normal, S)]
    | .region _ ops draw =>
      if draw then
        if drawOK ops.toList S then
          match satD E ops.toList (beforeL ops.toList []) 0 ops.toList 0 0 S with
          | some nodes => (bindL nodes fun x => exploreD E n ops.toList (beforeL ops.toList []) x.1 x.2.1 x.2.2).map (·.map fun S => (.normal, S))
          | none => none
        else none
      else (execOps E n ops.toList ops.toList S).map (·.map fun S => (.normal, S))
    | .seq a b => do
      bindL (<- exec E n B a S) fun (o, S) => match o with | .normal => exec E n B b S | o => some [(o, S)]
    | .cond c t e => do
      match <- opd S c with
      | .bool true => exec E n B t S
      | .bool false => exec E n B e S
      | .bexp x =>
        match exec E n B t (S.learn x true), exec E n B e (S.learn x false) with
        | some a, some b => some (a ++ b)
        | _, _ => none
      | _ => none
    | .block id b =>
      match B id with
      | some sp => sp S
      | none => do
        let l <- exec E n B b S
        some (l.map fun (o, S) => match o with | .exit i => if i = id then (.normal, S) else (.exit i, S) | o => (o, S))
    | .loop b => do
      bindL (<- exec E n B b S) fun (o, S) => match o with | .normal => exec E n B (.loop b) S | o => some [(o, S)]
    | .exit id => some [(.exit id, S)]
    | .ret => some [(.ret, S)]
    | _ => none
def execOne (E : Env) : Nat -> Oper -> St -> Option (Bool × List (SV × St))
  | 0, _, _ => none
  | n + 1, o, S =>
    if o.guard.isSome then none else
    match pureOp E S o with
    | some v => some (false, [(v, S)])
    | none =>
      match effOp E S o with
      | some r => some (true, [r])
      | none => do
        let (f, args) <- calleeOf E S o
        match E.ext f with
        | some g => do
          let (v, S') <- g args { S with tmps := .nil, nt := 0 }
          some (true, [(v, { S' with tmps := S.tmps, nt := S.nt })])
        | none => do
          let ls <- execCall E n f args { S with tmps := .nil, nt := 0 }
          some (true, ls.map fun (v, S') => (v, { S' with tmps := S.tmps, nt := S.nt }))
def exploreD (E : Env) : Nat -> List Oper -> List Nat -> Nat -> Nat -> St -> Option (List St)
  | 0, _, _, _, _, _ => none
  | n + 1, ops, b, D, Pu, S =>
    if allIdx (fun j _ => D.testBit j) 0 ops then some [S] else effD E n ops b D Pu S 0 ops
def effD (E : Env) : Nat -> List Oper -> List Nat -> Nat -> Nat -> St -> Nat -> List Oper -> Option (List St)
  | 0, _, _, _, _, _, _, _ => none
  | n + 1, ops, b, D, Pu, S, j, l =>
    match l with
    | [] => some []
    | o :: rest =>
      match effD E n ops b D Pu S (j + 1) rest with
      | none => none
      | some more =>
        if D.testBit j || !edgesIn o D then some more
        else
          if gYes (guardOf ops S o) then do
            let (_, ls) <- execOne E n { o with guard := none } S
            let r <- bindL ls fun (v, S') =>
              if okDst S' o.dst && recheck E b ops Pu j (S'.put o.dst v) then do
                bindL (<- satD E ops b 0 ops (D ||| 2 ^ j) Pu (S'.put o.dst v)) fun x => exploreD E n ops b x.1 x.2.1 x.2.2
              else none
            some (r ++ more)
          else none
def execOps (E : Env) : Nat -> List Oper -> List Oper -> St -> Option (List St)
  | 0, _, _, _ => none
  | n + 1, ops, l, S =>
    match l with
    | [] => some [S]
    | o :: rest =>
      let go := fun (S : St) => do
        let (_, ls) <- execOne E n { o with guard := none } S
        bindL ls fun (v, S') => if okDst S' o.dst then execOps E n ops rest (S'.put o.dst v) else none
      let skip := fun (S : St) => if okDst S o.dst then execOps E n ops rest (S.put o.dst (.tup [])) else none
      match guardOf ops S o with
      | some .yes => go S
      | some .no => skip S
      | some (.test t e want) =>
        match go (S.know t e want), skip (S.know t e (!want)) with
        | some a, some b => some (a ++ b)
        | _, _ => none
      | none => none
def execCall (E : Env) : Nat -> FuncId -> Fs
  | 0, _, _, _ => none
  | n + 1, f, args, S =>
    let (args, S) := nameL S args
    match specOf E f args S with
    | some ls => some ls
    | none => do
      let fn <- E.fn f
      let body <- fn.body
      let ls <- exec E n (fun _ => none) body { S with tmps := initTmps 0 args .nil, nt := max args.length fn.ntmps }
      bindL ls fun (o, S') => match o with
        | .normal | .ret => do some [(<- resultSV E fn S', S')]
        | _ => none
end
theorem pathGo_inj : ∀ f k g j, k <= f -> j <= g -> pathGo f k = pathGo g j -> k = j
  | 0, k, g, j, hk, hj, h => by
    obtain rfl : k = 0 := by omega
    cases g with
    | zero => omega
    | succ g =>
      simp only [pathGo] at h
      by_cases hj0 : j = 0
      · exact hj0.symm
      · simp [hj0] at h
  | f + 1, k, 0, j, hk, hj, h => by
    obtain rfl : j = 0 := by omega
    simp only [pathGo] at h
    by_cases hk0 : k = 0
    · exact hk0
    · simp [hk0] at h
  | f + 1, k, g + 1, j, hk, hj, h => by
    simp only [pathGo] at h
    by_cases hk0 : k = 0 <;> by_cases hj0 : j = 0
    · rw [hk0, hj0]
    · simp [hk0, hj0] at h
    · simp [hk0, hj0] at h
    · simp only [hk0, hj0, if_false, List.cons.injEq] at h
      have ih := pathGo_inj f ((k - 1) / 2) g ((j - 1) / 2) (by omega) (by omega) h.2
      have h1 : (k % 2 == 1) = (j % 2 == 1) := h.1
      have h2 : k % 2 = 1 ↔ j % 2 = 1 := by
        rw [Bool.eq_iff_iff] at h1; simpa using h1
      omega
theorem pathGo_stop : ∀ f k, k <= f -> pathGo f k = pathGo k k
  | 0, k, h => by
    have : k = 0 := by omega
    subst this; rfl
  | f + 1, 0, _ => by simp [pathGo]
  | f + 1, k + 1, h => by
    simp only [pathGo]
    rw [pathGo_stop f ((k + 1 - 1) / 2) (by omega), pathGo_stop k ((k + 1 - 1) / 2) (by omega)]
theorem path_eq (k : Nat) : path k = pathGo k k := by
  have key : ∀ n k, Nat.rec (motive := fun _ => Nat -> List Bool) (fun k => pathGo k k) (fun _ ih k => Nat.rec (motive := fun _ => List Bool) [] (fun j _ => Nat.beq (Nat.land j 1) 0 :: ih (Nat.shiftRight j 1)) k) n k = pathGo k k := by
    intro n
    induction n with
    | zero => intro k; rfl
    | succ n ih =>
      intro k
      cases k with
      | zero => rfl
      | succ j =>
        show Nat.beq (Nat.land j 1) 0 :: _ = _
        rw [ih (Nat.shiftRight j 1)]
        simp only [pathGo]
        rw [if_neg (by omega)]
        have e1 : Nat.land j 1 = j % 2 := Nat.and_one_is_mod j
        have e2 : Nat.shiftRight j 1 = (j + 1 - 1) / 2 := by
          show j >>> 1 = _
          rw [Nat.shiftRight_eq_div_pow]; rfl
        rw [e1, e2, pathGo_stop j ((j + 1 - 1) / 2) (by omega)]
        congr 1
        rcases Nat.mod_two_eq_zero_or_one j with h | h
        · rw [h]
          have : (j + 1) % 2 = 1 := by omega
          rw [this]; rfl
        · rw [h]
          have : (j + 1) % 2 = 0 := by omega
          rw [this]; rfl
  exact key 24 k
theorem path_inj {k j : Nat} (h : path k = path j) : k = j := pathGo_inj k k j j (Nat.le_refl _) (Nat.le_refl _) (by rw [path_eq, path_eq] at h; exact h)
section
variable {α : Type}
theorem Tr.get_e (l r : Tr α) (v : Option α) : (Tr.node l v r).get [] = v := rfl
theorem Tr.get_t (l r : Tr α) (v : Option α) (p : List Bool) : (Tr.node l v r).get (true :: p) = l.get p := rfl
theorem Tr.get_f (l r : Tr α) (v : Option α) (p : List Bool) : (Tr.node l v r).get (false :: p) = r.get p := rfl
theorem Tr.get_n (p : List Bool) : (Tr.nil : Tr α).get p = none := by cases p <;> rfl
theorem Tr.set_en (x : α) : Tr.set x [] .nil = .node .nil (some x) .nil := rfl
theorem Tr.set_ev (x : α) (l r : Tr α) (v : Option α) : Tr.set x [] (.node l v r) = .node l (some x) r := rfl
theorem Tr.set_tn (x : α) (p : List Bool) : Tr.set x (true :: p) .nil = .node (Tr.set x p .nil) none .nil := rfl
theorem Tr.set_fn (x : α) (p : List Bool) : Tr.set x (false :: p) .nil = .node .nil none (Tr.set x p .nil) := rfl
theorem Tr.set_tv (x : α) (l r : Tr α) (v : Option α) (p : List Bool) : Tr.set x (true :: p) (.node l v r) = .node (Tr.set x p l) v r := rfl
theorem Tr.set_fv (x : α) (l r : Tr α) (v : Option α) (p : List Bool) : Tr.set x (false :: p) (.node l v r) = .node l v (Tr.set x p r) := rfl
theorem Tr.del_n (p : List Bool) : Tr.del p (.nil : Tr α) = .nil := by cases p <;> rfl
theorem Tr.del_e (l r : Tr α) (v : Option α) : Tr.del [] (.node l v r) = .node l none r := rfl
theorem Tr.del_tv (l r : Tr α) (v : Option α) (p : List Bool) : Tr.del (true :: p) (.node l v r) = .node (Tr.del p l) v r := rfl
theorem Tr.del_fv (l r : Tr α) (v : Option α) (p : List Bool) : Tr.del (false :: p) (.node l v r) = .node l v (Tr.del p r) := rfl
end
theorem Tr.get_nil {α : Type} (p : List Bool) : (Tr.nil : Tr α).get p = none := by cases p <;> rfl
theorem Tr.get_set_same {α : Type} (x : α) : ∀ (p : List Bool) (t : Tr α), (Tr.set x p t).get p = some x
  | [], .nil => rfl
  | [], .node _ _ _ => rfl
  | true :: p, .nil => by simp [Tr.set_tn, Tr.get_t, Tr.get_set_same x p .nil]
  | false :: p, .nil => by simp [Tr.set_fn, Tr.get_f, Tr.get_set_same x p .nil]
  | true :: p, .node l v r => by simp [Tr.set_tv, Tr.get_t, Tr.get_set_same x p l]
  | false :: p, .node l v r => by simp [Tr.set_fv, Tr.get_f, Tr.get_set_same x p r]
theorem Tr.get_set_other {α : Type} (x : α) : ∀ (p q : List Bool) (t : Tr α), p ≠ q -> (Tr.set x p t).get q = t.get q
  | [], [], _, h => absurd rfl h
  | [], b :: q, .nil, _ => by cases b <;> simp [Tr.set_en, Tr.get_t, Tr.get_f, Tr.get_n]
  | [], b :: q, .node l v r, _ => by cases b <;> simp [Tr.set_ev, Tr.get_t, Tr.get_f]
  | true :: p, [], .nil, _ => by simp [Tr.set_tn, Tr.get_e, Tr.get_n]
  | false :: p, [], .nil, _ => by simp [Tr.set_fn, Tr.get_e, Tr.get_n]
  | true :: p, [], .node l v r, _ => by simp [Tr.set_tv, Tr.get_e]
  | false :: p, [], .node l v r, _ => by simp [Tr.set_fv, Tr.get_e]
  | true :: p, true :: q, .nil, h => by
    simp only [Tr.set_tn, Tr.get_t, Tr.get_n]; rw [Tr.get_set_other x p q .nil (by simpa using h)]; simp [Tr.get_nil]
  | true :: p, false :: q, .nil, _ => by simp [Tr.set_tn, Tr.get_f, Tr.get_n]
  | false :: p, true :: q, .nil, _ => by simp [Tr.set_fn, Tr.get_t, Tr.get_n]
  | false :: p, false :: q, .nil, h => by
    simp only [Tr.set_fn, Tr.get_f, Tr.get_n]; rw [Tr.get_set_other x p q .nil (by simpa using h)]; simp [Tr.get_nil]
  | true :: p, true :: q, .node l v r, h => by
    simp only [Tr.set_tv, Tr.get_t]; exact Tr.get_set_other x p q l (by simpa using h)
  | true :: p, false :: q, .node l v r, _ => by simp [Tr.set_tv, Tr.get_f]
  | false :: p, true :: q, .node l v r, _ => by simp [Tr.set_fv, Tr.get_t]
  | false :: p, false :: q, .node l v r, h => by
    simp only [Tr.set_fv, Tr.get_f]; exact Tr.get_set_other x p q r (by simpa using h)
theorem Tr.get_del_same {α : Type} : ∀ (p : List Bool) (t : Tr α), (Tr.del p t).get p = none
  | p, .nil => by cases p <;> simp [Tr.del_n, Tr.get_nil]
  | [], .node _ _ _ => rfl
  | true :: p, .node l v r => by simp [Tr.del_tv, Tr.get_t, Tr.get_del_same p l]
  | false :: p, .node l v r => by simp [Tr.del_fv, Tr.get_f, Tr.get_del_same p r]
theorem Tr.get_del_other {α : Type} : ∀ (p q : List Bool) (t : Tr α), p ≠ q -> (Tr.del p t).get q = t.get q
  | p, q, .nil, _ => by cases p <;> simp [Tr.del_n, Tr.get_nil]
  | [], [], .node _ _ _, h => absurd rfl h
  | [], b :: q, .node l v r, _ => by cases b <;> simp [Tr.del_e, Tr.get_t, Tr.get_f]
  | true :: p, [], .node l v r, _ => by simp [Tr.del_tv, Tr.get_e]
  | false :: p, [], .node l v r, _ => by simp [Tr.del_fv, Tr.get_e]
  | true :: p, true :: q, .node l v r, h => by
    simp only [Tr.del_tv, Tr.get_t]; exact Tr.get_del_other p q l (by simpa using h)
  | true :: p, false :: q, .node l v r, _ => by simp [Tr.del_tv, Tr.get_f]
  | false :: p, true :: q, .node l v r, _ => by simp [Tr.del_fv, Tr.get_t]
  | false :: p, false :: q, .node l v r, h => by
    simp only [Tr.del_fv, Tr.get_f]; exact Tr.get_del_other p q r (by simpa using h)
theorem Tr.get_set {α : Type} (x : α) (k j : Nat) (t : Tr α) : (Tr.set x (path k) t).get (path j) = if j = k then some x else t.get (path j) := by
  by_cases h : j = k
  · subst h; simp [Tr.get_set_same]
  · rw [if_neg h, Tr.get_set_other]
    intro e; exact h (path_inj e).symm
theorem Tr.get_del {α : Type} (k j : Nat) (t : Tr α) : (Tr.del (path k) t).get (path j) = if j = k then none else t.get (path j) := by
  by_cases h : j = k
  · subst h; simp [Tr.get_del_same]
  · rw [if_neg h, Tr.get_del_other]
    intro e; exact h (path_inj e).symm
structure Ctx where
  ρ : Nat -> Int
  β : Nat -> Nat
  o : Nat -> Nat
  κ : Nat -> Nat
def IE.eval (ρ : Nat -> Int) : IE -> Int
  | .const n => n
  | .var i => ρ i
  | .add a b => a.eval ρ + b.eval ρ
  | .sub a b => a.eval ρ - b.eval ρ
  | .mul a b => a.eval ρ * b.eval ρ
  | .bin op k a b => intBin op k (a.eval ρ) (b.eval ρ)
  | .wrap k a => k.wrap (a.eval ρ)
  | .pick i n a b => if i.eval ρ = (n : Int) then a.eval ρ else b.eval ρ
def BE.eval (ρ : Nat -> Int) : BE -> Bool
  | .cmp op a b => intCmp op (a.eval ρ) (b.eval ρ)
  | .not b => !b.eval ρ
mutual
def SV.den (c : Ctx) : SV -> Value
  | .int k e => .int k (e.eval c.ρ)
  | .bool b => .bool b
  | .bexp e => .bool (e.eval c.ρ)
  | .ptr b off => .pointer (some ⟨c.β b, off, none⟩)
  | .nilp => .pointer none
  | .slice b off len cap => .slice (some ⟨c.β b, off, none⟩) len cap
  | .nils => .slice none 0 0
  | .view b off len => .slice (some ⟨c.β b, c.o b + off, none⟩) len (c.κ b - off)
  | .vptr b off => .pointer (some ⟨c.β b, c.o b + off, none⟩)
  | .lslice vw b off e cap => .slice (some ⟨c.β b, if vw then c.o b + off else off, none⟩) (e.eval c.ρ).toNat (if vw then c.κ b - off else cap)
  | .sptr vw b off s e => .pointer (some ⟨c.β b, (if vw then c.o b else 0) + off + s * (e.eval c.ρ).toNat, none⟩)
  | .agg l => .agg (denL c l).toArray
  | .tup l => .tuple (denL c l).toArray
  | .iface t v => .iface t (v.den c)
  | .val v => v
def denL (c : Ctx) : List SV -> List Value
  | [] => []
  | v :: l => v.den c :: denL c l
end
theorem denL_map (c : Ctx) (l : List SV) : denL c l = l.map (·.den c) := by
  induction l with
  | nil => rfl
  | cons v l ih => simp [denL, ih]
def IE.ok (n : Nat) : IE -> Prop
  | .const _ => True
  | .var i => i < n
  | .add a b | .sub a b | .mul a b | .bin _ _ a b => a.ok n /\ b.ok n
  | .wrap _ a => a.ok n
  | .pick i _ a b => i.ok n /\ a.ok n /\ b.ok n
def BE.ok (n : Nat) : BE -> Prop
  | .cmp _ a b => a.ok n /\ b.ok n
  | .not b => b.ok n
mutual
def SV.ok (n m : Nat) : SV -> Prop
  | .int _ e => e.ok n
  | .bexp e => e.ok n
  | .ptr b _ | .slice b _ _ _ | .view b _ _ | .vptr b _ => b < m
  | .sptr _ b _ _ e => b < m /\ e.ok n
  | .lslice _ b _ e _ => b < m /\ e.ok n
  | .agg l | .tup l => okL n m l
  | .iface _ v => v.ok n m
  | _ => True
def okL (n m : Nat) : List SV -> Prop
  | [] => True
  | v :: l => v.ok n m /\ okL n m l
end
theorem okL_iff (n m : Nat) (l : List SV) : okL n m l ↔ ∀ v ∈ l, v.ok n m := by
  induction l with
  | nil => simp [okL]
  | cons v l ih => simp [okL, ih]
theorem IE.ok_mono {n n' : Nat} (h : n <= n') : ∀ {e : IE}, e.ok n -> e.ok n'
  | .const _, _ => trivial
  | .var _, he => Nat.lt_of_lt_of_le he h
  | .add _ _, he => ⟨IE.ok_mono h he.1, IE.ok_mono h he.2⟩
  | .sub _ _, he => ⟨IE.ok_mono h he.1, IE.ok_mono h he.2⟩
  | .mul _ _, he => ⟨IE.ok_mono h he.1, IE.ok_mono h he.2⟩
  | .bin _ _ _ _, he => ⟨IE.ok_mono h he.1, IE.ok_mono h he.2⟩
  | .wrap _ a, he => IE.ok_mono (e := a) h he
  | .pick _ _ _ _, he => ⟨IE.ok_mono h he.1, IE.ok_mono h he.2.1, IE.ok_mono h he.2.2⟩
theorem BE.ok_mono {n n' : Nat} (h : n <= n') : ∀ {e : BE}, e.ok n -> e.ok n'
  | .cmp _ _ _, he => ⟨IE.ok_mono h he.1, IE.ok_mono h he.2⟩
  | .not b, he => BE.ok_mono (e := b) h he
mutual
theorem SV.ok_mono {n n' m m' : Nat} (h : n <= n') (h' : m <= m') : ∀ {v : SV}, v.ok n m -> v.ok n' m'
  | .int _ _, hv => IE.ok_mono h hv
  | .bool _, _ => trivial
  | .bexp _, hv => BE.ok_mono h hv
  | .ptr _ _, hv => Nat.lt_of_lt_of_le hv h'
  | .nilp, _ => trivial
  | .slice _ _ _ _, hv => Nat.lt_of_lt_of_le hv h'
  | .nils, _ => trivial
  | .view _ _ _, hv => Nat.lt_of_lt_of_le hv h'
  | .vptr _ _, hv => Nat.lt_of_lt_of_le hv h'
  | .sptr _ _ _ _ _, hv => ⟨Nat.lt_of_lt_of_le hv.1 h', IE.ok_mono h hv.2⟩
  | .lslice _ _ _ _ _, hv => ⟨Nat.lt_of_lt_of_le hv.1 h', IE.ok_mono h hv.2⟩
  | .agg l, hv => okL_mono (l := l) h h' hv
  | .tup l, hv => okL_mono (l := l) h h' hv
  | .iface _ v, hv => SV.ok_mono (v := v) h h' hv
  | .val _, _ => trivial
theorem okL_mono {n n' m m' : Nat} (h : n <= n') (h' : m <= m') : ∀ {l : List SV}, okL n m l -> okL n' m' l
  | [], _ => trivial
  | _ :: _, hl => ⟨SV.ok_mono h h' hl.1, okL_mono h h' hl.2⟩
end
structure Ext (n m : Nat) (c c' : Ctx) : Prop where
  ρ : ∀ i, i < n -> c'.ρ i = c.ρ i
  β : ∀ b, b < m -> c'.β b = c.β b
  o : ∀ b, b < m -> c'.o b = c.o b
  κ : ∀ b, b < m -> c'.κ b = c.κ b
theorem Ext.refl (n m : Nat) (c : Ctx) : Ext n m c c := ⟨fun _ _ => rfl, fun _ _ => rfl, fun _ _ => rfl, fun _ _ => rfl⟩
theorem Ext.trans {n m n' m' : Nat} {c c' c'' : Ctx} (h : Ext n m c c') (h' : Ext n' m' c' c'') (hn : n <= n') (hm : m <= m') : Ext n m c c'' :=
  ⟨fun i hi => (h'.ρ i (by omega)).trans (h.ρ i hi), fun b hb => (h'.β b (by omega)).trans (h.β b hb),
   fun b hb => (h'.o b (by omega)).trans (h.o b hb), fun b hb => (h'.κ b (by omega)).trans (h.κ b hb)⟩
theorem IE.eval_ext {n : Nat} {ρ ρ' : Nat -> Int} (h : ∀ i, i < n -> ρ' i = ρ i) : ∀ {e : IE}, e.ok n -> e.eval ρ' = e.eval ρ
  | .const _, _ => rfl
  | .var i, he => h i he
  | .add a b, he => by simp [IE.eval, IE.eval_ext h he.1, IE.eval_ext h he.2]
  | .sub a b, he => by simp [IE.eval, IE.eval_ext h he.1, IE.eval_ext h he.2]
  | .mul a b, he => by simp [IE.eval, IE.eval_ext h he.1, IE.eval_ext h he.2]
  | .bin op k a b, he => by simp [IE.eval, IE.eval_ext h he.1, IE.eval_ext h he.2]
  | .wrap k a, he => by simp [IE.eval, IE.eval_ext (e := a) h he]
  | .pick i n a b, he => by simp only [IE.eval, IE.eval_ext h he.1, IE.eval_ext h he.2.1, IE.eval_ext h he.2.2]
theorem BE.eval_ext {n : Nat} {ρ ρ' : Nat -> Int} (h : ∀ i, i < n -> ρ' i = ρ i) : ∀ {e : BE}, e.ok n -> e.eval ρ' = e.eval ρ
  | .cmp op a b, he => by simp [BE.eval, IE.eval_ext h he.1, IE.eval_ext h he.2]
  | .not b, he => by simp [BE.eval, BE.eval_ext (e := b) h he]
mutual
theorem SV.den_ext {n m : Nat} {c c' : Ctx} (h : Ext n m c c') : ∀ {v : SV}, v.ok n m -> v.den c' = v.den c
  | .int _ _, hv => by simp [SV.den, IE.eval_ext h.ρ hv]
  | .bool _, _ => rfl
  | .bexp _, hv => by simp [SV.den, BE.eval_ext h.ρ hv]
  | .ptr b _, hv => by simp [SV.den, h.β b hv]
  | .nilp, _ => rfl
  | .slice b _ _ _, hv => by simp [SV.den, h.β b hv]
  | .nils, _ => rfl
  | .view b _ _, hv => by simp [SV.den, h.β b hv, h.o b hv, h.κ b hv]
  | .vptr b _, hv => by simp [SV.den, h.β b hv, h.o b hv]
  | .sptr vw b _ _ e, hv => by simp only [SV.den, h.β b hv.1, h.o b hv.1, IE.eval_ext h.ρ hv.2]
  | .lslice vw b _ e _, hv => by simp only [SV.den, h.β b hv.1, h.o b hv.1, h.κ b hv.1, IE.eval_ext h.ρ hv.2]
  | .agg l, hv => by simp only [SV.den]; rw [denL_ext (l := l) h hv]
  | .tup l, hv => by simp only [SV.den]; rw [denL_ext (l := l) h hv]
  | .iface _ v, hv => by simp only [SV.den]; rw [SV.den_ext (v := v) h hv]
  | .val _, _ => rfl
theorem denL_ext {n m : Nat} {c c' : Ctx} (h : Ext n m c c') : ∀ {l : List SV}, okL n m l -> denL c' l = denL c l
  | [], _ => rfl
  | _ :: _, hl => by simp only [denL]; rw [SV.den_ext h hl.1, denL_ext h hl.2]
end
def Con.holds (X : Tk) (ρ : Nat -> Int) : Con -> Prop
  | .eq d e => ρ d = e.eval ρ
  | .add64 s c x y z => ρ s + 2 ^ 64 * ρ c = x.eval ρ + y.eval ρ + z.eval ρ
  | .sub64 s c x y z => ρ s - 2 ^ 64 * ρ c = x.eval ρ - y.eval ρ - z.eval ρ
  | .mul64 hi lo x y => ρ lo + 2 ^ 64 * ρ hi = x.eval ρ * y.eval ρ
  | .test e b => e.eval ρ = b
  | .ext t l => X t (l.map (·.eval ρ))
def Con.ok (n : Nat) : Con -> Prop
  | .eq d e => d < n /\ e.ok n
  | .add64 s c x y z | .sub64 s c x y z => s < n /\ c < n /\ x.ok n /\ y.ok n /\ z.ok n
  | .mul64 hi lo x y => hi < n /\ lo < n /\ x.ok n /\ y.ok n
  | .test e _ => e.ok n
  | .ext _ l => ∀ e ∈ l, e.ok n
theorem Con.ok_mono {n n' : Nat} (h : n <= n') {k : Con} (hk : k.ok n) : k.ok n' := by
  cases k with
  | eq d e => exact ⟨by have := hk.1; omega, IE.ok_mono h hk.2⟩
  | add64 s c x y z => exact ⟨by have := hk.1; omega, by have := hk.2.1; omega, IE.ok_mono h hk.2.2.1, IE.ok_mono h hk.2.2.2.1, IE.ok_mono h hk.2.2.2.2⟩
  | sub64 s c x y z => exact ⟨by have := hk.1; omega, by have := hk.2.1; omega, IE.ok_mono h hk.2.2.1, IE.ok_mono h hk.2.2.2.1, IE.ok_mono h hk.2.2.2.2⟩
  | mul64 hi lo x y => exact ⟨by have := hk.1; omega, by have := hk.2.1; omega, IE.ok_mono h hk.2.2.1, IE.ok_mono h hk.2.2.2⟩
  | test e b => exact BE.ok_mono h hk
  | ext t l => exact fun e he => IE.ok_mono h (hk e he)
theorem Con.holds_ext {X : Tk} {n : Nat} {ρ ρ' : Nat -> Int} (h : ∀ i, i < n -> ρ' i = ρ i) {k : Con} (hk : k.ok n) (hh : k.holds X ρ) : k.holds X ρ' := by
  cases k with
  | eq d e => simp only [Con.holds] at *; rw [h d hk.1, IE.eval_ext h hk.2]; exact hh
  | add64 s c x y z =>
    simp only [Con.holds] at *
    rw [h s hk.1, h c hk.2.1, IE.eval_ext h hk.2.2.1, IE.eval_ext h hk.2.2.2.1, IE.eval_ext h hk.2.2.2.2]; exact hh
  | sub64 s c x y z =>
    simp only [Con.holds] at *
    rw [h s hk.1, h c hk.2.1, IE.eval_ext h hk.2.2.1, IE.eval_ext h hk.2.2.2.1, IE.eval_ext h hk.2.2.2.2]; exact hh
  | mul64 hi lo x y =>
    simp only [Con.holds] at *
    rw [h hi hk.1, h lo hk.2.1, IE.eval_ext h hk.2.2.1, IE.eval_ext h hk.2.2.2]; exact hh
  | test e b => simp only [Con.holds] at *; rw [BE.eval_ext h hk]; exact hh
  | ext t l =>
    simp only [Con.holds] at *
    rw [List.map_congr_left (fun e he => IE.eval_ext h (hk e he))]; exact hh
structure TRep (c : Ctx) (t : Tr SV) (nt nv nb : Nat) (a : Act) : Prop where
  defers : a.defers = []
  size : a.tmps.size = nt
  tmps : ∀ i v, t.get (path i) = some v -> a.tmps.getD i undef = v.den c /\ v.ok nv nb
def blkRep (c : Ctx) (b : Nat) (k : Blk) (w : World) : Prop :=
  if k.full then w.heap[c.β b]? = some (.cells (denL c k.cells).toArray k.ty (0, 0))
  else k.cells.length <= c.κ b /\ ∃ arr ty fr, w.heap[c.β b]? = some (.cells arr ty fr) /\ ∀ (i : Nat) (v : SV), k.cells[i]? = some v -> arr[c.o b + i]? = some (v.den c)
def BdOK (ρ : Nat -> Int) (bd : Tr (Int × Int)) (n : Nat) : Prop := ∀ i r, bd.get (path i) = some r -> i < n /\ r.1 <= ρ i /\ ρ i <= r.2
theorem BdOK.ext {ρ ρ' : Nat -> Int} {bd : Tr (Int × Int)} {n n' : Nat} (h : BdOK ρ bd n) (he : ∀ i, i < n -> ρ' i = ρ i) (hn : n <= n') : BdOK ρ' bd n' := fun i r hr => by
  obtain ⟨h1, h2, h3⟩ := h i r hr
  exact ⟨by omega, by rw [he i h1]; exact h2, by rw [he i h1]; exact h3⟩
structure Base extends World where
  b0 : Nat
def partAt (mem : Tr Blk) (b : Nat) : Prop := ∃ k, mem.get (path b) = some k /\ k.full = false
def lenRep (X : Tk) (c : Ctx) (x : Nat × Nat) (w : World) : Prop :=
  ∃ l : List Int, X 57 l /\ (l.length : Int) = c.ρ x.2 /\ l.length <= c.κ x.1 /\ ∃ arr ty fr, w.heap[c.β x.1]? = some (.cells arr ty fr) /\ ∀ (i : Nat) v, l[i]? = some v -> arr[c.o x.1 + i]? = some (.int .u8 v)
theorem lenRep.ext {X : Tk} {n m : Nat} {c c' : Ctx} {x : Nat × Nat} {w : World} (h : lenRep X c x w) (he : Ext n m c c') (h1 : x.1 < m) (h2 : x.2 < n) : lenRep X c' x w := by
  obtain ⟨l, l1, l2, l3, arr, ty, fr, l4, l5⟩ := h
  exact ⟨l, l1, by rw [he.ρ _ h2]; exact l2, by rw [he.κ _ h1]; exact l3, arr, ty, fr, by rw [he.β _ h1]; exact l4, by rw [he.o _ h1]; exact l5⟩
theorem lenRep.heap {X : Tk} {c : Ctx} {x : Nat × Nat} {w w' : World} (h : lenRep X c x w) (he : w'.heap[c.β x.1]? = w.heap[c.β x.1]?) : lenRep X c x w' := by
  obtain ⟨l, l1, l2, l3, arr, ty, fr, l4, l5⟩ := h
  exact ⟨l, l1, l2, l3, arr, ty, fr, by rw [he]; exact l4, l5⟩
theorem lenRep.lt {X : Tk} {c : Ctx} {x : Nat × Nat} {w : World} (h : lenRep X c x w) : c.β x.1 < w.heap.size := by
  obtain ⟨l, l1, l2, l3, arr, ty, fr, l4, l5⟩ := h
  exact (Array.getElem?_eq_some_iff.1 l4).1
structure MRep (X : Tk) (w0 : Base) (c : Ctx) (S : St) (w : World) : Prop where
  mem : ∀ b k, S.mem.get (path b) = some k -> b < S.nb /\ okL S.nv S.nb k.cells /\ blkRep c b k w
  inj : ∀ b b' k k', S.mem.get (path b) = some k -> S.mem.get (path b') = some k' -> c.β b = c.β b' -> b = b' \/ (b ∈ S.al /\ b' ∈ S.al)
  wr : ∀ b ∈ S.wr, b < S.nb
  new : ∀ b, w0.b0 <= b -> b < S.nb -> w0.heap.size <= c.β b
  frame : ∀ r, r < w0.heap.size -> (∀ b ∈ S.wr, c.β b ≠ r) -> w.heap[r]? = w0.heap[r]?
  size : w0.heap.size <= w.heap.size
  cons : ∀ k ∈ S.cons, k.ok S.nv /\ k.holds X c.ρ
  bd : BdOK c.ρ S.bd S.nv
  os : w.os = w0.os
  out : w.output = w0.output
  tape : w.tape = w0.tape
  its : ∀ b s p, S.its.get (path b) = some (s, p) -> b < S.nb /\ w.heap[c.β b]? = some (.stringIter s p) /\ w0.heap.size <= c.β b
  lens : ∀ x ∈ S.lens, x.1 < S.nb /\ x.2 < S.nv /\ partAt S.mem x.1 /\ lenRep X c x w
theorem blkRep_ext {n m : Nat} {c c' : Ctx} (h : Ext n m c c') {b : Nat} (hbm : b < m) {k : Blk} {w : World} (hk : okL n m k.cells) (hb : blkRep c b k w) : blkRep c' b k w := by
  unfold blkRep at *
  rw [h.β b hbm, h.o b hbm, h.κ b hbm]
  split
  · rename_i hf; rw [if_pos hf] at hb; rw [denL_ext h hk]; exact hb
  · rename_i hf; rw [if_neg hf] at hb
    obtain ⟨h0, arr, ty, fr, h1, h2⟩ := hb
    refine ⟨h0, arr, ty, fr, h1, fun i v hv => ?_⟩
    rw [SV.den_ext h ((okL_iff _ _ _).1 hk v (List.mem_of_getElem? hv))]
    exact h2 i v hv
theorem TRep.ext {c c' : Ctx} {t : Tr SV} {nt nv nb nv' nb' : Nat} {a : Act} (h : TRep c t nt nv nb a) (he : Ext nv nb c c') (hn : nv <= nv') (hb : nb <= nb') : TRep c' t nt nv' nb' a :=
  ⟨h.defers, h.size, fun i v hv => by
    obtain ⟨h1, h2⟩ := h.tmps i v hv
    exact ⟨by rw [h1, SV.den_ext he h2], SV.ok_mono hn hb h2⟩⟩
theorem TRep.put {c : Ctx} {t : Tr SV} {nt nv nb : Nat} {a : Act} (h : TRep c t nt nv nb a) {d : Nat} {v : SV} (hd : d < nt) (hv : v.ok nv nb) :
    TRep c (Tr.set v (path d) t) nt nv nb (a.put (some d) (v.den c)) := by
  refine ⟨h.defers, by simp [Act.put, h.size], fun i u hu => ?_⟩
  rw [Tr.get_set] at hu
  by_cases hi : i = d
  · subst hi
    simp only [if_true, Option.some.injEq] at hu
    subst hu
    refine ⟨?_, hv⟩
    simp [Act.put, h.size, hd]
  · rw [if_neg hi] at hu
    obtain ⟨h1, h2⟩ := h.tmps i u hu
    refine ⟨?_, h2⟩
    have : d ≠ i := fun e => hi e.symm
    rw [<- h1]
    simp [Act.put, Array.getElem?_setIfInBounds_ne this]
theorem MRep.tmps_irrel {X : Tk} {w0 : Base} {c : Ctx} {S : St} {w : World} (h : MRep X w0 c S w) (t : Tr SV) (nt : Nat) : MRep X w0 c { S with tmps := t, nt := nt } w :=
  ⟨h.mem, h.inj, h.wr, h.new, h.frame, h.size, h.cons, h.bd, h.os, h.out, h.tape, h.its, h.lens⟩
theorem MRep.more {X : Tk} {w0 : Base} {c c' : Ctx} {S : St} {w : World} (h : MRep X w0 c S w) {nv' : Nat} {ks : List Con} {bd' : Tr (Int × Int)} (hn : S.nv <= nv')
    (he : Ext S.nv S.nb c c') (hk : ∀ k ∈ ks, k.ok nv' /\ k.holds X c'.ρ) (hb : BdOK c'.ρ bd' nv') : MRep X w0 c' { S with nv := nv', bd := bd', cons := ks ++ S.cons } w := by
  refine ⟨fun b k hb => ?_, fun b b' k k' hb hb' e => ?_, h.wr, fun b h1 h2 => by rw [he.β b h2]; exact h.new b h1 h2, fun r hr hw => ?_, h.size, fun k hk' => ?_, hb, h.os, h.out, h.tape, fun b s p hb => ?_, fun x hx => ?_⟩
  · obtain ⟨h1, h2, h3⟩ := h.mem b k hb
    exact ⟨h1, okL_mono hn (Nat.le_refl _) h2, blkRep_ext he h1 h2 h3⟩
  · have h1 := (h.mem b k hb).1
    have h2 := (h.mem b' k' hb').1
    rw [he.β b h1, he.β b' h2] at e
    exact h.inj b b' k k' hb hb' e
  · exact h.frame r hr fun b hb => by rw [<- he.β b (h.wr b hb)]; exact hw b hb
  · rcases List.mem_append.1 hk' with hk' | hk'
    · exact hk k hk'
    · obtain ⟨h1, h2⟩ := h.cons k hk'
      exact ⟨Con.ok_mono hn h1, Con.holds_ext he.ρ h1 h2⟩
  · obtain ⟨h1, h2, h3⟩ := h.its b s p hb
    rw [he.β b h1]; exact ⟨h1, h2, h3⟩
  · obtain ⟨h1, h2, h3, h4⟩ := h.lens x hx
    exact ⟨h1, by show x.2 < nv'; omega, h3, h4.ext he h1 h2⟩
theorem MRep.ext {X : Tk} {w0 : Base} {c c' : Ctx} {S : St} {w : World} (h : MRep X w0 c S w) (he : Ext S.nv S.nb c c') : MRep X w0 c' S w := by
  have := h.more (ks := []) (Nat.le_refl _) he (by simp) (h.bd.ext he.ρ (Nat.le_refl _))
  simpa using this
def descOK (P : Program) (t : TypeId) : TD -> Prop
  | .int k => P.underlying t = some (.int k)
  | .bool => P.underlying t = some .bool
  | .string => P.underlying t = some .string
  | .ptr e => P.underlying t = some (.pointer e)
  | .slice e => P.underlying t = some (.slice e)
  | .array n e => P.underlying t = some (.array n e)
  | .struct fs => ∃ fields, P.underlying t = some (.struct fields) /\ fields.toList.map (fun f => (f.offset, f.type)) = fs
  | .iface b => ∃ ms, P.underlying t = some (.interface ms) /\ ms.isEmpty = b
  | .other => ∃ ps rs v, P.underlying t = some (.func ps rs v)
structure TyOK (P : Program) (t : TypeId) (ti : TI) : Prop where
  d : descOK P t ti.d
  info : ∃ i, P.info? t = some i /\ i.size = ti.size /\ i.bytes = ti.bytes /\ ∃ z, i.zero = some z /\ ∀ c, z.cells.toList = denL c ti.zero
  zok : okL 0 0 ti.zero
  zlen : ti.zero.length = ti.size
section
variable {P : Program} {t : TypeId} {ti : TI} {w : World}
theorem TyOK.run_sizeOf (h : TyOK P t ti) : (sizeOf t).run P w = .ok ti.size w := by
  obtain ⟨i, h1, h2, _⟩ := h.info
  simp [sizeOf, typeInfo, h1, h2]
theorem TyOK.run_typeInfo (h : TyOK P t ti) : ∃ i, (typeInfo t).run P w = .ok i w /\ i.size = ti.size /\ i.bytes = ti.bytes := by
  obtain ⟨i, h1, h2, h3, _⟩ := h.info
  exact ⟨i, by simp [typeInfo, h1], h2, h3⟩
theorem TyOK.run_zero (h : TyOK P t ti) (c : Ctx) : ∃ z, (zeroValue t).run P w = .ok z w /\ z.cells = (denL c ti.zero).toArray := by
  obtain ⟨i, h1, _, _, z, h2, h3⟩ := h.info
  refine ⟨z, by simp [zeroValue, typeInfo, h1, h2], ?_⟩
  rw [<- h3 c]
theorem TyOK.run_isAgg (h : TyOK P t ti) : (isAgg t).run P w = .ok (isAggT ti) w := by
  obtain ⟨d, size, bytes, zero⟩ := ti
  have hd := h.d
  cases d <;> simp only [descOK] at hd
  case struct fs => obtain ⟨f, hu, _⟩ := hd; simp [isAgg, run_underlying hu, isAggT]
  case iface b => obtain ⟨f, hu, _⟩ := hd; simp [isAgg, run_underlying hu, isAggT]
  case other => obtain ⟨ps, rs, v, hu⟩ := hd; simp [isAgg, run_underlying hu, isAggT]
  all_goals simp [isAgg, run_underlying hd, isAggT]
theorem TyOK.underlying_some (h : TyOK P t ti) : ∃ d, P.underlying t = some d := by
  obtain ⟨d, size, bytes, zero⟩ := ti
  have hd := h.d
  cases d <;> simp only [descOK] at hd
  case struct fs => obtain ⟨f, hu, _⟩ := hd; exact ⟨_, hu⟩
  case iface b => obtain ⟨f, hu, _⟩ := hd; exact ⟨_, hu⟩
  case other => obtain ⟨ps, rs, v, hu⟩ := hd; exact ⟨_, hu⟩
  all_goals exact ⟨_, hd⟩
end
theorem ofValue_den (c : Ctx) (v : Value) : (ofValue v).den c = v := by
  unfold ofValue
  split <;> simp [SV.den, IE.eval]
theorem ofValue_ok (n m : Nat) (v : Value) : (ofValue v).ok n m := by
  unfold ofValue
  split <;> simp [SV.ok, IE.ok]
section
variable {c : Ctx} {S : St} {a : Act}
theorem opd_sound (h : TRep c S.tmps S.nt S.nv S.nb a) {x : Operand} {v : SV} (hx : opd S x = some v) : a.eval x = v.den c /\ v.ok S.nv S.nb := by
  cases x with
  | tmp t => exact h.tmps t v hx
  | const u =>
    simp only [opd, Option.some.injEq] at hx
    subst hx
    exact ⟨by simp [Act.eval, ofValue_den], ofValue_ok _ _ _⟩
  | func f =>
    simp only [opd, Option.some.injEq] at hx
    subst hx
    exact ⟨by simp [Act.eval, SV.den], by simp [SV.ok]⟩
  | global g => simp [opd] at hx
theorem optMap_spec {α β : Type} {f : α -> Option β} : ∀ {l : List α} {r : List β}, optMap f l = some r -> l.map f = r.map some
  | [], r, h => by simp only [optMap, Option.some.injEq] at h; subst h; rfl
  | x :: xs, r, h => by
    simp only [optMap] at h
    split at h
    · rename_i y ys hy hys
      simp only [Option.some.injEq] at h
      subst h
      simp [hy, optMap_spec hys]
    · cases h
end
theorem fdiv_pow (x : Int) (n : Nat) : x.fdiv (2 ^ n) = x / 2 ^ n := Int.fdiv_eq_ediv_of_nonneg x (by exact Int.le_of_lt (Int.pow_pos (by decide)))
theorem wrap_range (k : IntKind) (n : Int) : k.min <= k.wrap n /\ k.wrap n <= k.max := by
  cases k <;> simp only [IntKind.wrap, IntKind.min, IntKind.max, IntKind.signed, IntKind.bits] <;> constructor <;> simp <;> (try split) <;> omega
theorem wrap_of_range {k : IntKind} {n : Int} (h1 : k.min <= n) (h2 : n <= k.max) : k.wrap n = n := by
  cases k <;> simp only [IntKind.wrap, IntKind.min, IntKind.max, IntKind.signed, IntKind.bits] at * <;> simp at * <;> (try split) <;> omega
theorem within_spec {k : IntKind} {r : Option (Int × Int)} (h : within k r = true) : ∃ l u, r = some (l, u) /\ k.min <= l /\ u <= k.max := by
  unfold within at h
  split at h
  · rename_i l u
    simp only [Bool.and_eq_true, decide_eq_true_eq] at h
    exact ⟨l, u, rfl, h.1, h.2⟩
  · cases h
theorem ofInt_toNat {n : Nat} {x : Int} (h0 : 0 <= x) (h1 : x < 2 ^ n) : ((BitVec.ofInt n x).toNat : Int) = x := by
  rw [BitVec.toNat_ofInt]
  have : x % (2 ^ n : Nat) = x := Int.emod_eq_of_lt h0 (by push_cast; exact h1)
  rw [this]; omega
theorem max_lt_pow (k : IntKind) : k.max < 2 ^ k.bits := by cases k <;> decide
theorem and_range {k : IntKind} {x y : Int} (h0 : 0 <= y) (h1 : y <= k.max) : 0 <= intBin .and k x y /\ intBin .and k x y <= y := by
  have hy := ofInt_toNat (n := k.bits) h0 (by have := max_lt_pow k; omega)
  have hle : ((BitVec.ofInt k.bits x &&& BitVec.ofInt k.bits y).toNat : Int) <= y := by
    rw [BitVec.toNat_and]
    have := Nat.and_le_right (n := (BitVec.ofInt k.bits x).toNat) (m := (BitVec.ofInt k.bits y).toNat)
    omega
  have hmin : k.min <= 0 := by cases k <;> decide
  simp only [intBin]
  rw [wrap_of_range (by omega) (by omega)]
  omega
theorem and_comm' (k : IntKind) (x y : Int) : intBin .and k x y = intBin .and k y x := by
  simp only [intBin]; rw [BitVec.and_comm]
theorem or_range {k : IntKind} {x y : Int} {m : Nat} (hx : 0 <= x) (hy : 0 <= y) (hx1 : x < 2 ^ m) (hy1 : y < 2 ^ m) (hk1 : x <= k.max) (hk2 : y <= k.max) (hm : (2 ^ m : Int) - 1 <= k.max) :
    (0 <= intBin .or k x y /\ intBin .or k x y <= 2 ^ m - 1) /\ (0 <= intBin .xor k x y /\ intBin .xor k x y <= 2 ^ m - 1) := by
  have ex := ofInt_toNat (n := k.bits) hx (by have := max_lt_pow k; omega)
  have ey := ofInt_toNat (n := k.bits) hy (by have := max_lt_pow k; omega)
  have hmin : k.min <= 0 := by cases k <;> decide
  have bx : (BitVec.ofInt k.bits x).toNat < 2 ^ m := by
    have : ((BitVec.ofInt k.bits x).toNat : Int) < ((2 ^ m : Nat) : Int) := by rw [ex]; push_cast; exact hx1
    omega
  have by' : (BitVec.ofInt k.bits y).toNat < 2 ^ m := by
    have : ((BitVec.ofInt k.bits y).toNat : Int) < ((2 ^ m : Nat) : Int) := by rw [ey]; push_cast; exact hy1
    omega
  have h1 := Nat.or_lt_two_pow bx by'
  have h2 := Nat.xor_lt_two_pow bx by'
  have h1' : ((BitVec.ofInt k.bits x ||| BitVec.ofInt k.bits y).toNat : Int) <= 2 ^ m - 1 := by
    rw [BitVec.toNat_or]
    have : (((BitVec.ofInt k.bits x).toNat ||| (BitVec.ofInt k.bits y).toNat : Nat) : Int) < ((2 ^ m : Nat) : Int) := by omega
    push_cast at this
    omega
  have h2' : ((BitVec.ofInt k.bits x ^^^ BitVec.ofInt k.bits y).toNat : Int) <= 2 ^ m - 1 := by
    rw [BitVec.toNat_xor]
    have : (((BitVec.ofInt k.bits x).toNat ^^^ (BitVec.ofInt k.bits y).toNat : Nat) : Int) < ((2 ^ m : Nat) : Int) := by omega
    push_cast at this
    omega
  simp only [intBin]
  rw [wrap_of_range (n := ((BitVec.ofInt k.bits x ||| BitVec.ofInt k.bits y).toNat : Int)) (by omega) (by omega), wrap_of_range (n := ((BitVec.ofInt k.bits x ^^^ BitVec.ofInt k.bits y).toNat : Int)) (by omega) (by omega)]
  omega
theorem rngBin_sound {op : BinOp} {k : IntKind} {a b r : Int × Int} {y : IE} {ρ : Nat -> Int} {x v : Int} (hv : y.eval ρ = v) (ha1 : a.1 <= x) (ha2 : x <= a.2) (hb1 : b.1 <= v) (hb2 : v <= b.2)
    (h : rngBin op k a b y = some r) : r.1 <= intBin op k x v /\ intBin op k x v <= r.2 := by
  have W := wrap_range k
  cases op <;> simp only [rngBin, reduceCtorEq] at h
  case add => simp only [Option.some.injEq] at h; subst h; exact W _
  case sub => simp only [Option.some.injEq] at h; subst h; exact W _
  case mul => simp only [Option.some.injEq] at h; subst h; exact W _
  case andNot => simp only [Option.some.injEq] at h; subst h; exact W _
  case quo =>
    split at h
    · rename_i n
      split at h
      · rename_i h0
        simp only [Bool.and_eq_true, decide_eq_true_eq] at h0
        simp only [Option.some.injEq] at h
        subst h
        simp only [IE.eval] at hv
        subst hv
        have hx : 0 <= x := by omega
        have hm : Int.ofNat (n + 1) = (n : Int) + 1 := rfl
        have hp : (0 : Int) < (n : Int) + 1 := by omega
        have h1 : a.1 / ((n : Int) + 1) <= x / ((n : Int) + 1) := Int.ediv_le_ediv hp ha1
        have h2 : x / ((n : Int) + 1) <= a.2 / ((n : Int) + 1) := Int.ediv_le_ediv hp ha2
        have h3 : 0 <= x / ((n : Int) + 1) := Int.ediv_nonneg hx (by omega)
        have h4 : x / ((n : Int) + 1) <= x := Int.ediv_le_self _ hx
        have hmin : k.min <= 0 := by cases k <;> decide
        simp only [intBin, hm]
        rw [Int.tdiv_eq_ediv_of_nonneg hx, wrap_of_range (by omega) (by omega)]
        exact ⟨h1, h2⟩
      · simp only [Option.some.injEq] at h; subst h; exact W _
    · simp only [Option.some.injEq] at h; subst h; exact W _
  case shl => simp only [Option.some.injEq] at h; subst h; exact W _
  case rem =>
    split at h
    · rename_i n
      split at h
      · rename_i h0
        simp only [Option.some.injEq] at h
        subst h
        simp only [IE.eval] at hv
        subst hv
        have hx : 0 <= x := by omega
        simp only [intBin]
        rw [Int.tmod_eq_emod_of_nonneg hx]
        have hm : Int.ofNat (n + 1) = (n : Int) + 1 := rfl
        try simp only [IE.eval] at hb1 hb2
        generalize Int.ofNat (n + 1) = m at hm hb1 hb2
        have h1 := Int.emod_nonneg x (b := m) (by omega)
        have h2 := Int.emod_lt_of_pos x (b := m) (by omega)
        have h3 := Int.mul_ediv_add_emod x m
        have h4 := Int.mul_nonneg (a := m) (b := x / m) (by omega) (Int.ediv_nonneg hx (by omega))
        generalize m * (x / m) = z at h3 h4
        omega
      · cases h
    · cases h
  case shr =>
    split at h
    · rename_i n
      simp only [Option.some.injEq] at h
      subst h
      simp only [IE.eval] at hv
      subst hv
      simp only [intBin, fdiv_pow, Int.ofNat_eq_natCast, Int.toNat_natCast]
      have hp : (0 : Int) < 2 ^ (min n k.bits) := Int.pow_pos (by decide)
      exact ⟨Int.ediv_le_ediv hp ha1, Int.ediv_le_ediv hp ha2⟩
    · split at h
      · rename_i h0
        simp only [Bool.and_eq_true, decide_eq_true_eq] at h0
        simp only [Option.some.injEq] at h
        subst h
        have hx : 0 <= x := by omega
        simp only [intBin, fdiv_pow]
        have hp : (0 : Int) < 2 ^ (min v.toNat k.bits) := Int.pow_pos (by decide)
        exact ⟨Int.ediv_nonneg hx (by omega), Int.le_trans (Int.ediv_le_self _ hx) ha2⟩
      · cases h
  case and =>
    split at h
    · rename_i h0
      simp only [Bool.and_eq_true, decide_eq_true_eq] at h0
      have h1 := and_range (k := k) (x := v) (y := x) (by omega) (by omega)
      rw [and_comm'] at h1
      split at h
      · rename_i h0'
        simp only [Bool.and_eq_true, decide_eq_true_eq] at h0'
        have h2 := and_range (k := k) (x := x) (y := v) (by omega) (by omega)
        simp only [Option.some.injEq] at h; subst h
        simp only []
        omega
      · simp only [Option.some.injEq] at h; subst h
        simp only []
        omega
    · split at h
      · rename_i h0'
        simp only [Bool.and_eq_true, decide_eq_true_eq] at h0'
        have h2 := and_range (k := k) (x := x) (y := v) (by omega) (by omega)
        simp only [Option.some.injEq] at h; subst h
        simp only []
        omega
      · simp only [Option.some.injEq] at h; subst h; exact W _
  case or =>
    split at h
    · rename_i h0
      simp only [Bool.and_eq_true, decide_eq_true_eq] at h0
      split at h
      · rename_i hm
        simp only [Option.some.injEq] at h; subst h
        have hlog : (max a.2 b.2).toNat < 2 ^ ((max a.2 b.2).toNat.log2 + 1) := Nat.lt_log2_self
        have hlog' : (max a.2 b.2) < ((2 ^ ((max a.2 b.2).toNat.log2 + 1) : Nat) : Int) := by omega
        have := (or_range (k := k) (x := x) (y := v) (m := (max a.2 b.2).toNat.log2 + 1) (by omega) (by omega) (by push_cast at hlog'; omega) (by push_cast at hlog'; omega) (by omega) (by omega) (by push_cast at hm; exact hm)).1
        push_cast
        exact this
      · simp only [Option.some.injEq] at h; subst h; exact W _
    · simp only [Option.some.injEq] at h; subst h; exact W _
  case xor =>
    split at h
    · rename_i h0
      simp only [Bool.and_eq_true, decide_eq_true_eq] at h0
      split at h
      · rename_i hm
        simp only [Option.some.injEq] at h; subst h
        have hlog : (max a.2 b.2).toNat < 2 ^ ((max a.2 b.2).toNat.log2 + 1) := Nat.lt_log2_self
        have hlog' : (max a.2 b.2) < ((2 ^ ((max a.2 b.2).toNat.log2 + 1) : Nat) : Int) := by omega
        have := (or_range (k := k) (x := x) (y := v) (m := (max a.2 b.2).toNat.log2 + 1) (by omega) (by omega) (by push_cast at hlog'; omega) (by push_cast at hlog'; omega) (by omega) (by omega) (by push_cast at hm; exact hm)).2
        push_cast
        exact this
      · simp only [Option.some.injEq] at h; subst h; exact W _
    · simp only [Option.some.injEq] at h; subst h; exact W _
theorem mul_corners {x y a b c d : Int} (h1 : a <= x) (h2 : x <= b) (h3 : c <= y) (h4 : y <= d) :
    min (min (a * c) (a * d)) (min (b * c) (b * d)) <= x * y /\ x * y <= max (max (a * c) (a * d)) (max (b * c) (b * d)) := by
  have key : ∀ (p : Int), (min (a * p) (b * p) <= x * p /\ x * p <= max (a * p) (b * p)) := fun p => by
    rcases Int.le_total 0 p with hp | hp
    · have e1 := Int.mul_le_mul_of_nonneg_right h1 hp
      have e2 := Int.mul_le_mul_of_nonneg_right h2 hp
      omega
    · have e1 := Int.mul_le_mul_of_nonpos_right h1 hp
      have e2 := Int.mul_le_mul_of_nonpos_right h2 hp
      omega
  have k1 := key c
  have k2 := key d
  rcases Int.le_total 0 x with hx | hx
  · have e1 := Int.mul_le_mul_of_nonneg_left h3 hx
    have e2 := Int.mul_le_mul_of_nonneg_left h4 hx
    omega
  · have e1 := Int.mul_le_mul_of_nonpos_left hx h3
    have e2 := Int.mul_le_mul_of_nonpos_left hx h4
    omega
theorem rng_sound {ρ : Nat -> Int} {bd : Tr (Int × Int)} {n : Nat} (hB : BdOK ρ bd n) : ∀ {e : IE} {r : Int × Int}, rng bd e = some r -> r.1 <= e.eval ρ /\ e.eval ρ <= r.2
  | .const m, r, h => by simp only [rng, Option.some.injEq] at h; subst h; exact ⟨Int.le_refl _, Int.le_refl _⟩
  | .var i, r, h => (hB i r h).2
  | .add a b, r, h => by
    simp only [rng] at h
    split at h
    · rename_i x y hx hy
      simp only [Option.some.injEq] at h; subst h
      have h1 := rng_sound hB hx
      have h2 := rng_sound hB hy
      simp only [IE.eval]; omega
    · cases h
  | .sub a b, r, h => by
    simp only [rng] at h
    split at h
    · rename_i x y hx hy
      simp only [Option.some.injEq] at h; subst h
      have h1 := rng_sound hB hx
      have h2 := rng_sound hB hy
      simp only [IE.eval]; omega
    · cases h
  | .mul a b, r, h => by
    simp only [rng] at h
    split at h
    · rename_i x y hx hy
      have h1 := rng_sound hB hx
      have h2 := rng_sound hB hy
      simp only [IE.eval]
      split at h
      · rename_i h0
        simp only [Bool.and_eq_true, decide_eq_true_eq] at h0
        simp only [Option.some.injEq] at h; subst h
        refine ⟨Int.mul_le_mul h1.1 h2.1 h0.2 (by omega), Int.mul_le_mul h1.2 h2.2 (by omega) (by omega)⟩
      · simp only [Option.some.injEq] at h; subst h
        exact mul_corners h1.1 h1.2 h2.1 h2.2
    · cases h
  | .bin op k a b, r, h => by
    simp only [rng] at h
    split at h
    · rename_i x y hx hy
      have h1 := rng_sound hB hx
      have h2 := rng_sound hB hy
      simp only [IE.eval]
      exact rngBin_sound rfl h1.1 h1.2 h2.1 h2.2 h
    · cases h
  | .wrap k a, r, h => by
    simp only [rng, Option.some.injEq] at h; subst h
    exact wrap_range k _
  | .pick i m a b, r, h => by
    simp only [rng] at h
    split at h
    · rename_i x y hx hy
      simp only [Option.some.injEq] at h; subst h
      have h1 := rng_sound hB hx
      have h2 := rng_sound hB hy
      simp only [IE.eval]
      split <;> omega
    · cases h
theorem exact_spec {op : BinOp} {k : IntKind} {a b e : IE} {ρ : Nat -> Int} (h : exact op k a b = some e) : intBin op k (a.eval ρ) (b.eval ρ) = k.wrap (e.eval ρ) := by
  unfold exact at h
  split at h <;> simp only [Option.some.injEq, reduceCtorEq] at h <;> subst h
  · rfl
  · rfl
  · rfl
  · simp [intBin, IE.eval]
theorem exact_ok {n : Nat} {op : BinOp} {k : IntKind} {a b e : IE} (h : exact op k a b = some e) (ha : a.ok n) (hb : b.ok n) : e.ok n := by
  unfold exact at h
  split at h <;> simp only [Option.some.injEq, reduceCtorEq] at h <;> subst h
  · exact ⟨ha, hb⟩
  · exact ⟨ha, hb⟩
  · exact ⟨ha, hb⟩
  · exact ⟨ha, trivial⟩
theorem same_ie : ∀ {a b : IE}, ieSame a b = true -> a = b
  | a, b, h => by
    unfold ieSame at h
    split at h
    · simp only [beq_iff_eq] at h; rw [h]
    · simp only [beq_iff_eq] at h; rw [h]
    · rename_i a b c d; simp only [Bool.and_eq_true] at h; rw [same_ie (a := a) (b := c) h.1, same_ie (a := b) (b := d) h.2]
    · rename_i a b c d; simp only [Bool.and_eq_true] at h; rw [same_ie (a := a) (b := c) h.1, same_ie (a := b) (b := d) h.2]
    · rename_i a b c d; simp only [Bool.and_eq_true] at h; rw [same_ie (a := a) (b := c) h.1, same_ie (a := b) (b := d) h.2]
    · rename_i o k a b o' k' c d
      simp only [Bool.and_eq_true, beq_iff_eq] at h
      obtain ⟨⟨⟨h1, h2⟩, h3⟩, h4⟩ := h
      rw [h1, h2, same_ie (a := a) (b := c) h3, same_ie (a := b) (b := d) h4]
    · rename_i k a k' b
      simp only [Bool.and_eq_true, beq_iff_eq] at h
      rw [h.1, same_ie (a := a) (b := b) h.2]
    · rename_i i n a b i' n' c d
      simp only [Bool.and_eq_true, beq_iff_eq] at h
      obtain ⟨⟨⟨h1, h2⟩, h3⟩, h4⟩ := h
      rw [same_ie (a := i) (b := i') h1, h2, same_ie (a := a) (b := c) h3, same_ie (a := b) (b := d) h4]
    · cases h
theorem u64_back {x : Int} (h0 : 0 <= x) (h1 : x <= 18446744073709551615) : IntKind.u64.wrap ((BitVec.ofInt 64 x).toNat : Int) = x := by
  have e : ((BitVec.ofInt 64 x).toNat : Int) = x := by
    rw [BitVec.toNat_ofInt]
    show ((x % (2 ^ 64 : Nat)).toNat : Int) = x
    omega
  rw [e]
  exact wrap_of_range (by show (0 : Int) <= x; exact h0) (by show x <= 2 ^ 64 - 1; omega)
theorem within64 {ρ : Nat -> Int} {bd : Tr (Int × Int)} {n : Nat} (hB : BdOK ρ bd n) {e : IE} (h : within .u64 (rng bd e) = true) : 0 <= e.eval ρ /\ e.eval ρ <= 18446744073709551615 := by
  obtain ⟨l, u, h1, h2, h3⟩ := within_spec h
  have := rng_sound hB h1
  simp only at this
  have h2' : (0 : Int) <= l := h2
  have h3' : u <= (18446744073709551615 : Int) := h3
  omega
theorem xx64 (x : Int) {y : Int} (h0 : 0 <= y) (h1 : y <= 18446744073709551615) : intBin .xor .u64 x (intBin .xor .u64 x y) = y := by
  have e : BitVec.ofInt 64 (IntKind.u64.wrap ((BitVec.ofInt 64 x ^^^ BitVec.ofInt 64 y).toNat : Int)) = BitVec.ofInt 64 x ^^^ BitVec.ofInt 64 y := by
    generalize BitVec.ofInt 64 x ^^^ BitVec.ofInt 64 y = v
    have hv := v.isLt
    have hw : IntKind.u64.wrap (v.toNat : Int) = (v.toNat : Int) := wrap_of_range (by show (0 : Int) <= v.toNat; omega) (by show (v.toNat : Int) <= 2 ^ 64 - 1; omega)
    rw [hw]
    exact BitVec.eq_of_toNat_eq (by rw [BitVec.toNat_ofInt]; omega)
  show IntKind.u64.wrap ((BitVec.ofInt 64 x ^^^ BitVec.ofInt 64 (IntKind.u64.wrap ((BitVec.ofInt 64 x ^^^ BitVec.ofInt 64 y).toNat : Int))).toNat : Int) = y
  rw [e, <- BitVec.xor_assoc, BitVec.xor_self, BitVec.zero_xor, u64_back h0 h1]
theorem simp64_eval {ρ : Nat -> Int} {bd : Tr (Int × Int)} {n : Nat} (hB : BdOK ρ bd n) {op : BinOp} {a b e : IE} (h : simp64 bd op a b = some e) : e.eval ρ = intBin op .u64 (a.eval ρ) (b.eval ρ) := by
  unfold simp64 at h
  split at h
  · split at h
    · split at h
      · rename_i hn
        have hn' := beq_iff_eq.1 hn
        simp only [Option.some.injEq] at h
        subst h hn'
        show (0 : Int) = IntKind.u64.wrap ((BitVec.ofInt 64 0 &&& BitVec.ofInt 64 (b.eval ρ)).toNat : Int)
        rw [show BitVec.ofInt 64 0 = 0#64 from rfl, BitVec.zero_and]
        rfl
      · split at h
        · rename_i hn
          simp only [Bool.and_eq_true, beq_iff_eq] at hn
          simp only [Option.some.injEq] at h
          subst h
          obtain ⟨hn, hw⟩ := hn
          subst hn
          obtain ⟨h0, h1⟩ := within64 hB hw
          show b.eval ρ = IntKind.u64.wrap ((BitVec.ofInt 64 18446744073709551615 &&& BitVec.ofInt 64 (b.eval ρ)).toNat : Int)
          rw [show BitVec.ofInt 64 18446744073709551615 = BitVec.allOnes 64 by decide, BitVec.allOnes_and, u64_back h0 h1]
        · cases h
    · cases h
  · split at h
    · split at h
      · rename_i hn
        simp only [Bool.and_eq_true, beq_iff_eq] at hn
        simp only [Option.some.injEq] at h
        subst h
        obtain ⟨hn, hw⟩ := hn
        subst hn
        obtain ⟨h0, h1⟩ := within64 hB hw
        show a.eval ρ = IntKind.u64.wrap ((BitVec.ofInt 64 (a.eval ρ) ^^^ BitVec.ofInt 64 0).toNat : Int)
        rw [show BitVec.ofInt 64 0 = 0#64 from rfl, BitVec.xor_zero, u64_back h0 h1]
      · cases h
    · split at h
      · rename_i hn
        simp only [Bool.and_eq_true] at hn
        simp only [Option.some.injEq] at h
        subst h
        obtain ⟨⟨hn, hw⟩, hw'⟩ := hn
        have := same_ie hn
        subst this
        obtain ⟨h0, h1⟩ := within64 hB hw'
        exact (xx64 _ h0 h1).symm
      · cases h
    · cases h
  · cases h
theorem simp64_ok {n : Nat} {bd : Tr (Int × Int)} {op : BinOp} {a b e : IE} (h : simp64 bd op a b = some e) (ha : a.ok n) (hb : b.ok n) : e.ok n := by
  unfold simp64 at h
  split at h
  · split at h
    · split at h
      · simp only [Option.some.injEq] at h; subst h; trivial
      · split at h
        · simp only [Option.some.injEq] at h; subst h; exact hb
        · cases h
    · cases h
  · split at h
    · split at h
      · simp only [Option.some.injEq] at h; subst h; exact ha
      · cases h
    · split at h
      · simp only [Option.some.injEq] at h; subst h; exact hb.2
      · cases h
    · cases h
  · cases h
theorem mkBin_eval {ρ : Nat -> Int} {bd : Tr (Int × Int)} {n : Nat} (hB : BdOK ρ bd n) (op : BinOp) (k : IntKind) (a b : IE) : (mkBin bd op k a b).eval ρ = intBin op k (a.eval ρ) (b.eval ρ) := by
  unfold mkBin
  split
  · rfl
  · split
    · rename_i e he
      split at he
      · rename_i hk
        have hk' := beq_iff_eq.1 hk
        subst hk'
        exact simp64_eval hB he
      · cases he
    · split
      · rename_i e he
        split
        · rename_i hw
          obtain ⟨l, u, h1, h2, h3⟩ := within_spec hw
          have := rng_sound hB h1
          rw [exact_spec he, wrap_of_range (by simp only [] at this; omega) (by simp only [] at this; omega)]
        · rfl
      · rfl
theorem mkBin_ok {n : Nat} {bd : Tr (Int × Int)} {op : BinOp} {k : IntKind} {a b : IE} (ha : a.ok n) (hb : b.ok n) : (mkBin bd op k a b).ok n := by
  unfold mkBin
  split
  · trivial
  · split
    · rename_i e he
      split at he
      · exact simp64_ok he ha hb
      · cases he
    · split
      · rename_i e he
        split
        · exact exact_ok he ha hb
        · exact ⟨ha, hb⟩
      · exact ⟨ha, hb⟩
theorem mkWrap_eval {ρ : Nat -> Int} {bd : Tr (Int × Int)} {n : Nat} (hB : BdOK ρ bd n) (k : IntKind) (a : IE) : (mkWrap bd k a).eval ρ = k.wrap (a.eval ρ) := by
  unfold mkWrap
  split
  · rfl
  · split
    · rename_i hw
      obtain ⟨l, u, h1, h2, h3⟩ := within_spec hw
      have := rng_sound hB h1
      rw [wrap_of_range (by simp only [] at this; omega) (by simp only [] at this; omega)]
    · rfl
theorem mkWrap_ok {n : Nat} {bd : Tr (Int × Int)} {k : IntKind} {a : IE} (ha : a.ok n) : (mkWrap bd k a).ok n := by
  unfold mkWrap
  split
  · trivial
  · split <;> exact ha
theorem cmpBy_spec {op : BinOp} {a b : Int × Int} {t : Bool} {x y : Int} (h : cmpBy op a b = some t) (h1 : a.1 <= x) (h2 : x <= a.2) (h3 : b.1 <= y) (h4 : y <= b.2) : intCmp op x y = t := by
  have ex : ∀ {p q : Prop} [Decidable p] [Decidable q] {u v : Bool}, (if p then some u else if q then some v else none) = some t -> (p /\ u = t) \/ (q /\ v = t) := by
    intro p q _ _ u v h
    split at h
    · exact .inl ⟨by assumption, by simpa using h⟩
    · split at h
      · exact .inr ⟨by assumption, by simpa using h⟩
      · cases h
  cases op <;> first | (simp [cmpBy] at h; done) | skip
  case lss => rcases ex h with ⟨hp, rfl⟩ | ⟨hp, rfl⟩ <;> simp [intCmp] <;> omega
  case leq => rcases ex h with ⟨hp, rfl⟩ | ⟨hp, rfl⟩ <;> simp [intCmp] <;> omega
  case gtr => rcases ex h with ⟨hp, rfl⟩ | ⟨hp, rfl⟩ <;> simp [intCmp] <;> omega
  case geq => rcases ex h with ⟨hp, rfl⟩ | ⟨hp, rfl⟩ <;> simp [intCmp] <;> omega
  case eql =>
    simp only [cmpBy] at h
    rcases ex h with ⟨hp, rfl⟩ | ⟨hp, rfl⟩
    · simp at hp; simp [intCmp]; omega
    · simp only [Bool.and_eq_true, beq_iff_eq] at hp; simp [intCmp]; omega
  case neq =>
    simp only [cmpBy] at h
    rcases ex h with ⟨hp, rfl⟩ | ⟨hp, rfl⟩
    · simp at hp; simp [intCmp]; omega
    · simp only [Bool.and_eq_true, beq_iff_eq] at hp; simp [intCmp]; omega
theorem mkCmp_den {c : Ctx} {bd : Tr (Int × Int)} {n : Nat} (hB : BdOK c.ρ bd n) (op : BinOp) (a b : IE) : (mkCmp bd op a b).den c = .bool (intCmp op (a.eval c.ρ) (b.eval c.ρ)) := by
  unfold mkCmp
  split
  · rfl
  · split
    · rename_i x y hx hy
      have h1 := rng_sound hB hx
      have h2 := rng_sound hB hy
      split
      · rename_i t ht
        rw [cmpBy_spec ht h1.1 h1.2 h2.1 h2.2]; rfl
      · rfl
    · rfl
theorem mkCmp_ok {n m : Nat} {bd : Tr (Int × Int)} {op : BinOp} {a b : IE} (ha : a.ok n) (hb : b.ok n) : (mkCmp bd op a b).ok n m := by
  unfold mkCmp
  split
  · trivial
  · split
    · split
      · trivial
      · exact ⟨ha, hb⟩
    · exact ⟨ha, hb⟩
theorem eqGuard_int {P : Program} {w : World} (op : BinOp) (t : TypeId) (x y : Operand) (k k' : IntKind) (a b : Int) :
    (eqGuard op t x y (.int k a) (.int k' b)).run P w = .ok () w := by
  unfold eqGuard; cases op <;> simp
theorem run_binOp_int {P : Program} {w : World} {op : BinOp} {t : TypeId} {k : IntKind} {a b : Int} {e : IE} {ρ : Nat -> Int} (hb : e.eval ρ = b)
    (hc : isCmp op = false) (ho : binOk op e = true) : (binOp op t (.int k a) (.int k b)).run P w = .ok (.int k (intBin op k a b)) w := by
  subst hb
  cases op <;> simp [isCmp] at hc <;> simp [binOk] at ho <;>
    first
      | (simp [binOp, Op.intArith, intBin]; done)
      | (simp [binOp, Op.intBits, intBin]; done)
      | skip
  all_goals (cases e <;> simp at ho)
  · rename_i n; simp [binOp, Op.intDiv, intBin, IE.eval, ho]
  · rename_i n; simp [binOp, Op.intDiv, intBin, IE.eval, ho]
  · rename_i n
    have : ¬ n < 0 := by omega
    simp [binOp, Op.shift, intBin, IE.eval, this]
  · rename_i n
    have : ¬ n < 0 := by omega
    simp [binOp, Op.shift, intBin, IE.eval, this]
theorem run_binOp_shift {P : Program} {w : World} {op : BinOp} {t : TypeId} {k k' : IntKind} {a b : Int}
    (hs : op = .shl \/ op = .shr) (ho : 0 <= b) : (binOp op t (.int k a) (.int k' b)).run P w = .ok (.int k (intBin op k a b)) w := by
  have : ¬ b < 0 := by omega
  rcases hs with rfl | rfl
  · simp [binOp, Op.shift, intBin, this]
  · simp [binOp, Op.shift, intBin, this]
theorem binOk_shift {op : BinOp} {e : IE} {ρ : Nat -> Int} (hs : op = .shl \/ op = .shr) (ho : binOk op e = true) : 0 <= e.eval ρ := by
  rcases hs with rfl | rfl <;> simp [binOk] at ho <;> cases e <;> simp at ho <;> simpa [IE.eval] using ho
theorem shOk_spec {bd : Tr (Int × Int)} {n : Nat} {e : IE} {ρ : Nat -> Int} (hB : BdOK ρ bd n) (h : shOk bd e = true) : 0 <= e.eval ρ := by
  unfold shOk at h
  split at h
  · rename_i r hr
    have := rng_sound hB hr
    simp only [decide_eq_true_eq] at h
    omega
  · cases h
theorem run_binOp_cmp {P : Program} {w : World} {op : BinOp} {t : TypeId} {k : IntKind} {a b : Int} (hc : isCmp op = true) :
    (binOp op t (.int k a) (.int k b)).run P w = .ok (.bool (intCmp op a b)) w := by
  cases op <;> simp [isCmp] at hc <;> simp [binOp, Op.intCmp, intCmp]
end Go.Vm
end
