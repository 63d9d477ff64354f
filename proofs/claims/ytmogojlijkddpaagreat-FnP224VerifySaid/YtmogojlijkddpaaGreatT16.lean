/- The proof of laws.FnP224Verify, text 17 of 36. Conditions: none. -/
import Derived.Test.YtmogojlijkddpaaGreatT15
noncomputable section

set_option maxRecDepth 100000
namespace Go.Vm
def cw (n : Nat) : SV := .int .u64 (.const n)
def cB (n : Nat) : SV := .int .u8 (.const n)
def limbB (l : List SV) : Blk := ⟨83, l ++ List.replicate (32 - l.length) (cw 0), true⟩
def natB (b n : Nat) : Blk := ⟨113, [.slice b 0 n 32], true⟩
def w4 (n : Nat) : List SV := [cw (n % 18446744073709551616), cw (n / 18446744073709551616 % 18446744073709551616), cw (n / 340282366920938463463374607431768211456 % 18446744073709551616), cw (n / 6277101735386680763835789423207666416102355444464034512896)]
def nN : Nat := 26959946667150639794667015087019625940457807714424391721682722368061
def nW : List SV := w4 nN
def rrW : List SV := [cw 2996154245097553173, cw 12378424334381104971, cw 7697038227981551702, cw 2984868193]
def nm2B : List SV := [255, 255, 255, 255, 255, 255, 255, 255, 255, 255, 255, 255, 255, 255, 22, 162, 224, 184, 240, 62, 19, 221, 41, 69, 92, 92, 42, 59].map cB
def mod0Bs (b : Nat) : List Blk := [⟨118, [.ptr (b + 1) 0, .bool true, cw 15484011519437423339, .nilp], true⟩, natB (b + 2) 4, limbB nW]
def addCS (a r : Nat) : Sm := { bd := [], args := [.ptr 0 0, .ptr 0 0, .ptr 2 0], mem := [natB 1 4, limbB (w4 a)] ++ mod0Bs 2, al := [], outs := [{ nbd := [], val := .ptr 0 0, writes := [(0, [.slice 1 0 4 32]), (1, (limbB (w4 r)).cells)], news := [], post := [] }] }
def mmCS (a r : Nat) : Sm := { bd := [], args := [.ptr 0 0, .ptr 0 0, .ptr 0 0, .ptr 2 0], mem := [natB 1 4, limbB (w4 a)] ++ mod0Bs 2, al := [], outs := [{ nbd := [], val := .ptr 0 0, writes := [(0, [.slice 1 0 4 32]), (1, (limbB (w4 r)).cells)], news := [], post := [] }] }
def addCs : List Sm := (List.range 35).map fun i => addCS (2 ^ (223 + i) % nN) (2 ^ (224 + i) % nN)
def mmL : List (Nat × Nat) := [(81315401829057325176520548629395373838827520, 325261607316229300706082194517581495355310080), (325261607316229300706082194517581495355310080, 5204185717059668811297315112281303925684961280), (5204185717059668811297315112281303925684961280, 1332271543567275215692112668744013804975350087680), (1332271543567275215692112668744013804975350087680, 87311747879224948535598295858807688722864543346196480), (87311747879224948535598295858807688722864543346196480, 375001101697868511787677772506911256618051221109888287590318080), (375001101697868511787677772506911256618051221109888287590318080, 24868032678811561165777937207993041698572600023332914358051078640899), (24868032678811561165777937207993041698572600023332914358051078640899, 18736321316799972354316900901010793960983508926169534893853787651349)]
def mmCs : List Sm := mmL.map fun x => mmCS x.1 x.2
def rrS : Sm := { bd := [], args := [.ptr 0 0], mem := mod0Bs 0, al := [], outs := [{ nbd := [], val := .ptr 3 0, writes := [], news := [natB 4 4, limbB rrW], post := [] }] }
def crvBs (b : Nat) : List Blk := [⟨66, [.val (.string "P-224".toUTF8), .val (.func (.func 28) #[] #[]), .val .nilFunc, .ptr (b + 1) 0, .slice (b + 6) 0 28 28], true⟩,
  ⟨118, [.ptr (b + 2) 0, .bool true, cw 15484011519437423339, .ptr (b + 4) 0], true⟩, natB (b + 3) 4, limbB nW, natB (b + 5) 4, limbB rrW, ⟨5, nm2B, true⟩]
def crvS : Sm := { bd := [], args := [], mem := [], al := [], outs := [{ nbd := [], val := .ptr 0 0, writes := [], news := crvBs 0, post := [] }] }
def firstSp : List Sm -> Fs
  | [], _, _ => none
  | s :: l, args, S => match s.spec args S with
    | some r => some r
    | none => firstSp l args S
theorem SpecOK.first {P : Program} {X : Tk} {f : FuncId} : ∀ {l : List Sm}, (∀ s ∈ l, SpecOK P X f s.spec) -> SpecOK P X f (firstSp l)
  | [], _ => fun args S ls hs => by cases hs
  | s :: l, h => fun args S ls hs => by
    unfold firstSp at hs
    split at hs
    · rename_i r hr
      simp only [Option.some.injEq] at hs
      subst hs
      exact h s (by simp) args S _ hr
    · exact SpecOK.first (fun s' hs' => h s' (by simp [hs'])) args S ls hs
end Go.Vm
namespace Go.Proofs.YtmogojlijkddpaaGreat
open Go.Vm
variable {X : Tk}
def noLk : List (Nat × Look) := [(0, ⟨[], [], [], []⟩)]
def addCB (a n : Nat) : Bool := (List.range n).all fun i => chkFn (execCall E0 3000 99 (addCS (2 ^ (223 + (a + i)) % nN) (2 ^ (224 + (a + i)) % nN)).args (addCS (2 ^ (223 + (a + i)) % nN) (2 ^ (224 + (a + i)) % nN)).start) (addCS (2 ^ (223 + (a + i)) % nN) (2 ^ (224 + (a + i)) % nN)) noLk
def mmCB (l : List (Nat × Nat)) : Bool := l.all fun x => chkFn (execCall E0 3000 94 (mmCS x.1 x.2).args (mmCS x.1 x.2).start) (mmCS x.1 x.2) noLk
theorem addC_chk0 : addCB 0 7 = true := by kernel_rfl
theorem addC_chk1 : addCB 7 7 = true := by kernel_rfl
theorem addC_chk2 : addCB 14 7 = true := by kernel_rfl
theorem addC_chk3 : addCB 21 7 = true := by kernel_rfl
theorem addC_chk4 : addCB 28 7 = true := by kernel_rfl
theorem mmC_chk0 : mmCB [(81315401829057325176520548629395373838827520, 325261607316229300706082194517581495355310080)] = true := by kernel_rfl
theorem mmC_chk1 : mmCB [(325261607316229300706082194517581495355310080, 5204185717059668811297315112281303925684961280)] = true := by kernel_rfl
theorem mmC_chk2 : mmCB [(5204185717059668811297315112281303925684961280, 1332271543567275215692112668744013804975350087680)] = true := by kernel_rfl
theorem mmC_chk3 : mmCB [(1332271543567275215692112668744013804975350087680, 87311747879224948535598295858807688722864543346196480)] = true := by kernel_rfl
theorem mmC_chk4 : mmCB [(87311747879224948535598295858807688722864543346196480, 375001101697868511787677772506911256618051221109888287590318080)] = true := by kernel_rfl
theorem mmC_chk5 : mmCB [(375001101697868511787677772506911256618051221109888287590318080, 24868032678811561165777937207993041698572600023332914358051078640899)] = true := by kernel_rfl
theorem mmC_chk6 : mmCB [(24868032678811561165777937207993041698572600023332914358051078640899, 18736321316799972354316900901010793960983508926169534893853787651349)] = true := by kernel_rfl
end Go.Proofs.YtmogojlijkddpaaGreat
end
