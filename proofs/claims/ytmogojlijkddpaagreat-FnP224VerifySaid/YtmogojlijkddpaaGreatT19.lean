/- The proof of laws.FnP224Verify, text 20 of 36. Conditions: none. -/
import Derived.Test.YtmogojlijkddpaaGreatT10
import Derived.Test.YtmogojlijkddpaaGreatT11
import Derived.Test.YtmogojlijkddpaaGreatT15
import Derived.Test.YtmogojlijkddpaaGreatT17
import Derived.Test.YtmogojlijkddpaaGreatT18
noncomputable section

set_option maxRecDepth 100000
namespace Go.Vm
open Go.Proofs.YtmogojlijkddpaaGreat (v4)
theorem wv4_four (a b c d : Int) : wv4 [a, b, c, d] = a + 18446744073709551616 * b + 340282366920938463463374607431768211456 * c + 6277101735386680763835789423207666416102355444464034512896 * d := rfl
theorem p256_le {a b : Nat} (h : a <= b) : (256 : Int) ^ a <= 256 ^ b := by exact_mod_cast Nat.pow_le_pow_right (show 0 < 256 by decide) h
def bnR (ρ : Nat -> Int) (n : Nat) : Int := bn ((List.range n).map ρ)
theorem bnR_zero (ρ : Nat -> Int) : bnR ρ 0 = 0 := rfl
theorem bnR_succ (ρ : Nat -> Int) (n : Nat) : bnR ρ (n + 1) = bnR ρ n * 256 + ρ n := by
  unfold bnR bn
  rw [List.range_succ, List.map_append, List.foldl_append]; rfl
def u32E (i : Nat) : IE := .bin .or .u32 (.bin .or .u32 (.bin .or .u32 (.var (i + 3)) (.mul (.var (i + 2)) (.const 256))) (.mul (.var (i + 1)) (.const 65536))) (.mul (.var i) (.const 16777216))
def w64K (i k : Nat) : List Con := [.eq k (u32E i), .eq (k + 1) (u32E (i + 4)), .eq (k + 2) (.bin .or .u64 (.mul (.var k) (.const 4294967296)) (.var (k + 1)))]
def loK (r k : Nat) : List Con := (List.range r).map fun j => .eq (k + j) (.bin .or .u64 (if j = 0 then .const 0 else .var (k + j - 1)) (.mul (.var (r - 1 - j)) (.const (256 ^ j))))
def setK (m : Nat) : List Con := (List.range (m / 8)).flatMap (fun t => w64K (m - 8 * t - 8) (m + 3 * t)) ++ loK (m % 8) (m + 3 * (m / 8))
def wsE (m : Nat) (t : Nat) : IE := if t < m / 8 then .var (m + 3 * t + 2) else if t = m / 8 /\ 0 < m % 8 then .var (m + 3 * (m / 8) + m % 8 - 1) else .const 0
def w64OK (x : Int) : Prop := 0 <= x /\ x <= 18446744073709551615
section
variable {X : Tk} {ρ : Nat -> Int} {ks : List Con}
theorem u32_eval {i : Nat} (h : ∀ j, j < 4 -> byteOK (ρ (i + j))) : (u32E i).eval ρ = ρ i * 16777216 + ρ (i + 1) * 65536 + ρ (i + 2) * 256 + ρ (i + 3) /\ 0 <= (u32E i).eval ρ /\ (u32E i).eval ρ <= 4294967295 := by
  have h0 : byteOK (ρ i) := h 0 (by omega)
  have h1 := h 1 (by omega)
  have h2 := h 2 (by omega)
  have h3 := h 3 (by omega)
  have e : (u32E i).eval ρ = ρ i * 16777216 + ρ (i + 1) * 65536 + ρ (i + 2) * 256 + ρ (i + 3) := by
    have := be32 h0 h1 h2 h3
    simp only [u32E, IE.eval]
    rw [this]; omega
  unfold byteOK at h0 h1 h2 h3
  rw [e]
  exact ⟨rfl, by omega, by omega⟩
theorem w64_val (hk : ∀ c ∈ ks, c.holds X ρ) {i k : Nat} (h : ∀ c ∈ w64K i k, c ∈ ks) (hb : ∀ j, j < 8 -> byteOK (ρ (i + j))) :
    (∀ n : Int, (((((((n * 256 + ρ i) * 256 + ρ (i + 1)) * 256 + ρ (i + 2)) * 256 + ρ (i + 3)) * 256 + ρ (i + 4)) * 256 + ρ (i + 5)) * 256 + ρ (i + 6)) * 256 + ρ (i + 7) = n * 18446744073709551616 + ρ (k + 2)) /\ w64OK (ρ (k + 2)) := by
  have c0 := hk _ (h (.eq k (u32E i)) (by simp [w64K]))
  have c1 := hk _ (h (.eq (k + 1) (u32E (i + 4))) (by simp [w64K]))
  have c2 := hk _ (h (.eq (k + 2) (.bin .or .u64 (.mul (.var k) (.const 4294967296)) (.var (k + 1)))) (by simp [w64K]))
  obtain ⟨a1, a2, a3⟩ := u32_eval (ρ := ρ) (i := i) fun j hj => hb j (by omega)
  obtain ⟨b1, b2, b3⟩ := u32_eval (ρ := ρ) (i := i + 4) fun j hj => by rw [Nat.add_assoc]; exact hb (4 + j) (by omega)
  simp only [Con.holds, IE.eval] at c0 c1 c2
  rw [<- c0] at a1 a2 a3
  rw [<- c1] at b1 b2 b3
  rw [hi64 ⟨a2, a3⟩ ⟨b2, b3⟩] at c2
  simp only [Nat.add_assoc, Nat.reduceAdd] at b1
  unfold w64OK
  clear hk h hb c0 c1
  exact ⟨fun n => by omega, by omega, by omega⟩
theorem lo_val (hk : ∀ c ∈ ks, c.holds X ρ) {r k : Nat} (h : ∀ c ∈ loK r k, c ∈ ks) (hr : r < 8) (hb : ∀ i, i < r -> byteOK (ρ i)) :
    ∀ j, j < r -> ρ (k + j) + bnR ρ (r - 1 - j) * 256 ^ (j + 1) = bnR ρ r /\ 0 <= ρ (k + j) /\ ρ (k + j) < 256 ^ (j + 1) := fun j => by
  induction j with
  | zero =>
    intro hj
    have c := hk _ (h _ (List.mem_map.2 ⟨0, List.mem_range.2 hj, rfl⟩))
    have b := hb (r - 1) (by omega)
    simp only [Con.holds, IE.eval, if_true, Nat.add_zero, Nat.sub_zero, Int.pow_zero] at c
    rw [or64 0 (by decide) ⟨by decide, by decide⟩ b.1 (by have := b.2; omega)] at c
    have e := bnR_succ ρ (r - 1)
    rw [show r - 1 + 1 = r by omega] at e
    simp only [Nat.add_zero, Nat.sub_zero, Nat.zero_add, Int.pow_one]
    have b1 := b.1
    have b2 := b.2
    rw [e]
    generalize bnR ρ (r - 1) = z
    exact ⟨by omega, by omega, by omega⟩
  | succ j ih =>
    intro hj
    obtain ⟨i1, i2, i3⟩ := ih (by omega)
    have c := hk _ (h _ (List.mem_map.2 ⟨j + 1, List.mem_range.2 hj, rfl⟩))
    have b := hb (r - 1 - (j + 1)) (by omega)
    simp only [Con.holds, IE.eval] at c
    rw [if_neg (by omega), show k + (j + 1) - 1 = k + j by omega] at c
    simp only [IE.eval] at c
    have b1 := b.1
    have b2 := b.2
    have e := bnR_succ ρ (r - 1 - (j + 1))
    rw [show r - 1 - (j + 1) + 1 = r - 1 - j by omega] at e
    generalize ρ (r - 1 - (j + 1)) = x at *
    have hK : (256 : Int) ^ (j + 1) <= 256 ^ 6 := p256_le (by omega)
    have hK2 : (256 : Int) ^ (j + 1) = 2 ^ (8 * (j + 1)) := by rw [Int.pow_mul]; rfl
    have hK0 : (0 : Int) < 256 ^ (j + 1) := Int.pow_pos (by decide)
    rw [show (256 : Int) ^ (j + 1 + 1) = 256 ^ (j + 1) * 256 from Int.pow_succ ..]
    rw [show (256 : Int) ^ 6 = 281474976710656 by decide] at hK
    generalize (256 : Int) ^ (j + 1) = K at *
    have z0 : 0 <= x * K := Int.mul_nonneg b1 (by omega)
    have z1 : x * K <= 255 * K := Int.mul_le_mul_of_nonneg_right b2 (by omega)
    rw [or64 (8 * (j + 1)) hK2 ⟨i2, i3⟩ b1 (by omega)] at c
    rw [e, Int.add_mul] at i1
    rw [<- Int.mul_assoc]
    rw [show bnR ρ (r - 1 - (j + 1)) * 256 * K = bnR ρ (r - 1 - (j + 1)) * K * 256 by rw [Int.mul_assoc, Int.mul_comm 256 K, <- Int.mul_assoc]] at i1
    generalize bnR ρ (r - 1 - (j + 1)) * K * 256 = w at *
    generalize x * K = y at *
    exact ⟨by omega, by omega, by omega⟩
theorem set_val (hk : ∀ c ∈ ks, c.holds X ρ) {m : Nat} (h : ∀ c ∈ setK m, c ∈ ks) (hm : m < 32) (hb : ∀ i, i < m -> byteOK (ρ i)) :
    wv4 [(wsE m 0).eval ρ, (wsE m 1).eval ρ, (wsE m 2).eval ρ, (wsE m 3).eval ρ] = bnR ρ m /\ ∀ t, w64OK ((wsE m t).eval ρ) := by
  have hw : ∀ t, t < m / 8 -> _ := fun t ht => w64_val (ρ := ρ) hk (fun c hc => h c (List.mem_append_left _ (List.mem_flatMap.2 ⟨t, List.mem_range.2 ht, hc⟩))) (fun j hj => hb (m - 8 * t - 8 + j) (by omega))
  have lo : (if 0 < m % 8 then ρ (m + 3 * (m / 8) + m % 8 - 1) else 0) = bnR ρ (m % 8) /\ w64OK (if 0 < m % 8 then ρ (m + 3 * (m / 8) + m % 8 - 1) else 0) := by
    split
    · rename_i h0
      have := lo_val hk (fun c hc => h c (List.mem_append_right _ hc)) (Nat.mod_lt _ (by decide)) (fun i hi => hb i (by omega)) (m % 8 - 1) (by omega)
      rw [show m % 8 - 1 - (m % 8 - 1) = 0 by omega, bnR_zero, Int.zero_mul, Int.add_zero, show m + 3 * (m / 8) + (m % 8 - 1) = m + 3 * (m / 8) + m % 8 - 1 by omega] at this
      refine ⟨this.1, this.2.1, ?_⟩
      have hp : (256 : Int) ^ (m % 8 - 1 + 1) <= 256 ^ 8 := p256_le (by omega)
      rw [show (256 : Int) ^ 8 = 18446744073709551616 by decide] at hp
      have := this.2.2
      omega
    · rename_i h0
      rw [show m % 8 = 0 by omega]
      exact ⟨rfl, by decide, by decide⟩
  have at' : ∀ t, (wsE m t).eval ρ = if t < m / 8 then ρ (m + 3 * t + 2) else if t = m / 8 then (if 0 < m % 8 then ρ (m + 3 * (m / 8) + m % 8 - 1) else 0) else 0 := fun t => by
    unfold wsE
    by_cases h1 : t < m / 8
    · simp [h1, IE.eval]
    · by_cases h2 : t = m / 8
      · by_cases h3 : 0 < m % 8
        · simp [h2, h3, IE.eval]
        · simp [h2, h3, IE.eval]
      · simp [h1, h2, IE.eval]
  generalize hlo : (if 0 < m % 8 then ρ (m + 3 * (m / 8) + m % 8 - 1) else 0) = L at *
  refine ⟨?_, fun t => ?_⟩
  · have step : ∀ t, t < m / 8 -> bnR ρ (m - 8 * t - 8 + 8) = bnR ρ (m - 8 * t - 8) * 18446744073709551616 + ρ (m + 3 * t + 2) := fun t ht => by
      rw [<- (hw t ht).1]
      rw [bnR_succ, bnR_succ, bnR_succ, bnR_succ, bnR_succ, bnR_succ, bnR_succ, bnR_succ]
    rw [at', at', at', at']
    rw [wv4_four]
    have z0 : m + 3 * 0 + 2 = m + 2 := rfl
    have z1 : m + 3 * 1 + 2 = m + 3 + 2 := rfl
    have z2 : m + 3 * 2 + 2 = m + 6 + 2 := rfl
    have hq : m / 8 = 0 \/ m / 8 = 1 \/ m / 8 = 2 \/ m / 8 = 3 := by omega
    rcases hq with q | q | q | q <;> rw [q] at step ⊢
    · have e : m % 8 = m := by omega
      rw [e] at lo
      simp only [Nat.lt_irrefl, if_false, if_true, Nat.not_lt_zero]
      simp
      exact lo.1
    · have s0 := step 0 (by omega)
      rw [show m - 8 * 0 - 8 + 8 = m by omega, show m - 8 * 0 - 8 = m % 8 by omega, <- lo.1, z0] at s0
      simp
      omega
    · have s0 := step 0 (by omega)
      have s1 := step 1 (by omega)
      rw [show m - 8 * 0 - 8 + 8 = m by omega, z0] at s0
      rw [show m - 8 * 1 - 8 + 8 = m - 8 * 0 - 8 by omega, show m - 8 * 1 - 8 = m % 8 by omega, <- lo.1, z1] at s1
      simp
      omega
    · have s0 := step 0 (by omega)
      have s1 := step 1 (by omega)
      have s2 := step 2 (by omega)
      rw [show m - 8 * 0 - 8 + 8 = m by omega, z0] at s0
      rw [show m - 8 * 1 - 8 + 8 = m - 8 * 0 - 8 by omega, z1] at s1
      rw [show m - 8 * 2 - 8 + 8 = m - 8 * 1 - 8 by omega, show m - 8 * 2 - 8 = m % 8 by omega, <- lo.1, z2] at s2
      simp
      omega
  · rw [at']
    split
    · rename_i ht; exact (hw t ht).2
    · split
      · exact lo.2
      · exact ⟨by decide, by decide⟩
end
def weP : IE -> Poly
  | .var i => pvar i
  | .const c => pconst c
  | _ => []
def wsP (m : Nat) : Poly := (weP (wsE m 0)).add ((pscale 18446744073709551616 (weP (wsE m 1))).add ((pscale 340282366920938463463374607431768211456 (weP (wsE m 2))).add (pscale 6277101735386680763835789423207666416102355444464034512896 (weP (wsE m 3)))))
def subI (d : Nat) : List Nat := [d, d + 2, d + 4, d + 6]
def subB (d : Nat) : List (Nat × Int × Int) := (subI d).map (fun i => (i, W64')) ++ [(d + 7, (0, 1))]
def subPo (m d : Nat) : Poly := (limbs 0 (subI d)).sub (((wsP m).sub (pconst 26959946667150639794667015087019625940457807714424391721682722368061)).add (pscale 115792089237316195423570985008687907853269984665640564039457584007913129639936 (pvar (d + 7))))
def byBd (m : Nat) : List (Nat × Int × Int) := (List.range m).map fun i => (i, ((0 : Int), (255 : Int)))
def dOf (m : Nat) : Nat := m + 3 * (m / 8) + m % 8 + if 24 < m then 1 else 0
def nsbLk (b : Bool) : Look := ⟨[.var 30, .var 33, .var 36, .var 40], byBd 28 ++ subB 41, setK 28 ++ [.eq 49 (.bin .xor .u64 (.const 1) (.var 48)), .test (.cmp .eql (.var 49) (.const 1)) b], [subPo 28 41]⟩
def nsoLk (m : Nat) : Look := ⟨vars (dOf m + 11) 4, byBd m ++ subB (dOf m), setK m ++ mmSub (dOf m) (wsE m 0) (wsE m 1) (wsE m 2) (wsE m 3), [subPo m (dOf m)]⟩
def SbyP (l : List Int) : Prop := wordsOK (l.drop 28) /\ wv4 (l.drop 28) = bn (l.take 28) /\ bn (l.take 28) < n224
def SbnP (l : List Int) : Prop := ¬ bn l < n224
def SovP (l : List Int) : Prop := okN (l.drop (l.length - 4)) /\ wv4 (l.drop (l.length - 4)) = bn (l.take (l.length - 4)) % n224
section
variable {X : Tk} {ρ : Nat -> Int}
theorem weP_eval (m t : Nat) : Poly.eval ρ (weP (wsE m t)) = (wsE m t).eval ρ := by
  unfold wsE
  split
  · simp [weP, eval_var, IE.eval]
  · split
    · simp [weP, eval_var, IE.eval]
    · simp [weP, eval_const, IE.eval]
theorem wsP_eval (m : Nat) : Poly.eval ρ (wsP m) = wv4 [(wsE m 0).eval ρ, (wsE m 1).eval ρ, (wsE m 2).eval ρ, (wsE m 3).eval ρ] := by
  unfold wsP
  simp only [eval_add, eval_scale, weP_eval]
  rw [wv4_four]
  omega
theorem bytes_seen {L : Look} (hs : Seen X L ρ) {m : Nat} (h : ∀ x ∈ byBd m, x ∈ L.bds) : ∀ i, i < m -> byteOK (ρ i) := fun i hi => hs.bds (i, (0, 255)) (h _ (List.mem_map.2 ⟨i, List.mem_range.2 hi, rfl⟩))
theorem sub_seen {L : Look} (hs : Seen X L ρ) {m d : Nat} (hb : ∀ x ∈ subB d, x ∈ L.bds) (hp : subPo m d ∈ L.ps) :
    w64OK (ρ d) /\ w64OK (ρ (d + 2)) /\ w64OK (ρ (d + 4)) /\ w64OK (ρ (d + 6)) /\ (ρ (d + 7) = 0 \/ ρ (d + 7) = 1) /\
    wv4 [ρ d, ρ (d + 2), ρ (d + 4), ρ (d + 6)] = wv4 [(wsE m 0).eval ρ, (wsE m 1).eval ρ, (wsE m 2).eval ρ, (wsE m 3).eval ρ] - n224 + R256 * ρ (d + 7) := by
  have b0 := hs.bds _ (hb (d, W64') (by simp [subB, subI]))
  have b1 := hs.bds _ (hb (d + 2, W64') (by simp [subB, subI]))
  have b2 := hs.bds _ (hb (d + 4, W64') (by simp [subB, subI]))
  have b3 := hs.bds _ (hb (d + 6, W64') (by simp [subB, subI]))
  have b4 := hs.bds _ (hb (d + 7, (0, 1)) (by simp [subB, subI]))
  simp only at b4
  have p := hs.ps _ hp
  unfold subPo subI at p
  simp only [eval_sub, eval_add, eval_scale, eval_var, eval_const, limbs4, wsP_eval] at p
  refine ⟨b0, b1, b2, b3, by omega, ?_⟩
  rw [wv4_four, wv4_four] at *
  unfold n224 R256
  omega
theorem nsb_core {b : Bool} (hs : Seen X (nsbLk b) ρ) : w64OK (ρ 30) /\ w64OK (ρ 33) /\ w64OK (ρ 36) /\ w64OK (ρ 40) /\ wv4 [ρ 30, ρ 33, ρ 36, ρ 40] = bnR ρ 28 /\ (bnR ρ 28 < n224 ↔ b = false) := by
  obtain ⟨a1, a2⟩ := set_val (m := 28) hs.ks (fun c hc => List.mem_append_left _ hc) (by decide) (bytes_seen hs fun x hx => List.mem_append_left _ hx)
  obtain ⟨d0, d1, d2, d3, dw, de⟩ := sub_seen hs (m := 28) (d := 41) (fun x hx => List.mem_append_right _ hx) (List.mem_singleton.2 rfl)
  have w0 : w64OK (ρ 30) := a2 0
  have w1 : w64OK (ρ 33) := a2 1
  have w2 : w64OK (ρ 36) := a2 2
  have w3 : w64OK (ρ 40) := a2 3
  have c1 : ρ 49 = intBin .xor .u64 1 (ρ 48) := hs.ks (.eq 49 (.bin .xor .u64 (.const 1) (.var 48))) (List.mem_append_right _ (by simp))
  have c2 : decide (ρ 49 = 1) = b := hs.ks (.test (.cmp .eql (.var 49) (.const 1)) b) (List.mem_append_right _ (by simp))
  rw [xor1 dw] at c1
  refine ⟨w0, w1, w2, w3, a1, ?_⟩
  rw [a1] at de
  have hD := words4 d0 d1 d2 d3
  have e : wv4 [ρ 41, ρ (41 + 2), ρ (41 + 4), ρ (41 + 6)] = ρ 41 + 18446744073709551616 * ρ (41 + 2) + 340282366920938463463374607431768211456 * ρ (41 + 4) + 6277101735386680763835789423207666416102355444464034512896 * ρ (41 + 6) := rfl
  rw [e] at de
  have hT := words4 w0 w1 w2 w3
  have e2 : wv4 [ρ 30, ρ 33, ρ 36, ρ 40] = ρ 30 + 18446744073709551616 * ρ 33 + 340282366920938463463374607431768211456 * ρ 36 + 6277101735386680763835789423207666416102355444464034512896 * ρ 40 := rfl
  have a1' : wv4 [ρ 30, ρ 33, ρ 36, ρ 40] = bnR ρ 28 := a1
  rw [e2] at a1'
  rw [<- c2]
  clear c2 a1 a2 hs e e2
  have dw' : ρ 48 = 0 \/ ρ 48 = 1 := dw
  have de' : ρ 41 + 18446744073709551616 * ρ 43 + 340282366920938463463374607431768211456 * ρ 45 + 6277101735386680763835789423207666416102355444464034512896 * ρ 47 = bnR ρ 28 - n224 + R256 * ρ 48 := de
  have hD' : 0 <= ρ 41 + 18446744073709551616 * ρ 43 + 340282366920938463463374607431768211456 * ρ 45 + 6277101735386680763835789423207666416102355444464034512896 * ρ 47 /\ ρ 41 + 18446744073709551616 * ρ 43 + 340282366920938463463374607431768211456 * ρ 45 + 6277101735386680763835789423207666416102355444464034512896 * ρ 47 < 115792089237316195423570985008687907853269984665640564039457584007913129639936 := hD
  rw [de'] at hD'
  rw [a1'] at hT
  generalize bnR ρ 28 = B at *
  unfold n224 R256 at *
  rcases dw' with h | h
  · rw [h] at hD' c1
    rw [c1]
    constructor
    · intro q; omega
    · intro q; exact absurd q (by decide)
  · rw [h] at hD' c1
    rw [c1]
    constructor
    · intro q; decide
    · intro q; omega
theorem nso_core {m : Nat} (hm : m < 29) (hs : Seen X (nsoLk m) ρ) : okN (Q4 ρ (dOf m + 11)) /\ wv4 (Q4 ρ (dOf m + 11)) = bnR ρ m % n224 := by
  have hb : ∀ i, i < m -> byteOK (ρ i) := bytes_seen hs fun x hx => List.mem_append_left _ hx
  obtain ⟨a1, a2⟩ := set_val (m := m) hs.ks (fun c hc => List.mem_append_left _ hc) (by omega) hb
  obtain ⟨d0, d1, d2, d3, dw, de⟩ := sub_seen hs (m := m) (d := dOf m) (fun x hx => List.mem_append_right _ hx) (List.mem_singleton.2 rfl)
  obtain ⟨s1, s2⟩ := sub_fact hs.ks (fun k hk => List.mem_append_right _ hk) dw (a2 0) (a2 1) (a2 2) (a2 3) d0 d1 d2 d3
  rw [a1] at de s2
  have hD := words4 d0 d1 d2 d3
  have lt : ∀ n, n <= m -> 0 <= bnR ρ n /\ bnR ρ n < 256 ^ n := fun n => by
    induction n with
    | zero => intro _; rw [bnR_zero]; decide
    | succ n ih =>
      intro hn
      obtain ⟨i1, i2⟩ := ih (by omega)
      have b := hb n (by omega)
      unfold byteOK at b
      rw [bnR_succ, Int.pow_succ]
      omega
  obtain ⟨t1, t2⟩ := lt m (Nat.le_refl _)
  have hp : (256 : Int) ^ m <= 256 ^ 28 := p256_le (by omega)
  rw [show (256 : Int) ^ 28 = 26959946667150639794667015087019630673637144422540572481103610249216 by decide] at hp
  have key := @msub_n _ _ _ 0 (wv4 (Q4 ρ (dOf m + 11))) ⟨t1, Int.lt_of_lt_of_le t2 hp⟩ hD dw de (by
    rw [s2]
    by_cases q : ρ (dOf m + 7) = 0
    · rw [if_pos q, if_pos (.inl q)]; rfl
    · rw [if_neg q, if_neg (fun z => z.elim q (by decide))])
  refine ⟨⟨s1, ?_, ?_⟩, key⟩
  · rw [key]; exact Int.emod_nonneg _ (by decide)
  · rw [key]; exact Int.emod_lt_of_pos _ (by decide)
end
open Go.Proofs.YtmogojlijkddpaaGreat (v4)
def nsbS2 : Sm := { nsbS with outs := nsbS.outs.take 1 ++ (nsbS.outs.drop 1).map fun o => { o with post := [(91, vars 0 32)] } }
def SbnP2 (l : List Int) : Prop := wordsOK (l.drop 28) /\ ¬ bn (l.take 28) < n224
def NizP (l : List Int) : Prop := (nth l 4 = 0 \/ nth l 4 = 1) /\ (nth l 4 = 1 ↔ wv4 l = 0)
def NeqP (l : List Int) : Prop := (nth l 8 = 0 \/ nth l 8 = 1) /\ (nth l 8 = 1 ↔ wv4 l = wv4 (l.drop 4))
def NbyP (l : List Int) : Prop := (∀ x ∈ l.drop 4, byteOK x) /\ bn (l.drop 4) = wv4 l
structure FR (X : Tk) : Prop extends FP X where
  sby : ∀ l, X 90 l ↔ SbyP l
  sbn : ∀ l, X 91 l ↔ SbnP2 l
  niz : ∀ l, X 92 l ↔ NizP l
  nby : ∀ l, X 96 l ↔ NbyP l
  sov : ∀ l, X 97 l ↔ SovP l
  neq : ∀ l, X 98 l ↔ NeqP l
def unC (sp : Fs) (args : List SV) (S : St) : Option (List (SV × St)) := match args with | [.int _ (.const _)] => none | _ => sp args S
theorem SpecOK.unC {P : Program} {X : Tk} {f : FuncId} {sp : Fs} (h : SpecOK P X f sp) : SpecOK P X f (unC sp) := fun args S ls hs => by
  unfold Go.Vm.unC at hs
  split at hs
  · cases hs
  · exact h args S ls hs
def blDs : List (Nat × Look) := (List.range 33).map fun (k : Nat) => (0, ⟨[.const ((32 : Int) - (k : Int))], [], [], []⟩)
theorem bl_ends {X : Tk} : ∀ d ∈ blDs, EndP X blS d.1 d.2 := fun d hd => by
  obtain ⟨k, _, rfl⟩ := List.mem_map.1 hd
  exact endP_none _ rfl rfl
theorem and_if (P Q : Prop) [Decidable P] [Decidable Q] : intBin .and .u64 (if P then 1 else 0) (if Q then 1 else 0) = if P /\ Q then 1 else 0 := by
  by_cases h : P <;> by_cases h' : Q <;> simp only [h, h', if_true, if_false, and_self, and_true, and_false] <;> decide
theorem nz_word {v d w o x : Int} (hv : w64OK v) (hd : w64OK d) (hw : w = 0 \/ w = 1) (e1 : d - 2 ^ 64 * w = 0 - v - 0) (e2 : o = intBin .or .u64 0 w) (e3 : x = intBin .xor .u64 1 o) : x = if v = 0 then 1 else 0 := by
  rw [orb (.inl rfl) hw] at e2
  have ho : o = 0 \/ o = 1 := by rw [e2]; split <;> simp
  rw [xor1 ho] at e3
  unfold w64OK at hv hd
  rcases hw with h | h
  · have : v = 0 := by omega
    rw [e3, e2, this, h]; simp
  · have : v ≠ 0 := by omega
    rw [e3, e2, h, if_neg this]; simp
theorem eq_word {a b d1 w1 d2 w2 o x : Int} (ha : w64OK a) (hb : w64OK b) (h1 : w64OK d1) (h2 : w64OK d2) (hw1 : w1 = 0 \/ w1 = 1) (hw2 : w2 = 0 \/ w2 = 1) (e1 : d1 - 2 ^ 64 * w1 = a - b - 0) (e2 : d2 - 2 ^ 64 * w2 = b - a - 0)
    (e3 : o = intBin .or .u64 w1 w2) (e4 : x = intBin .xor .u64 1 o) : x = if a = b then 1 else 0 := by
  rw [orb hw1 hw2] at e3
  have ho : o = 0 \/ o = 1 := by rw [e3]; split <;> simp
  rw [xor1 ho] at e4
  unfold w64OK at ha hb h1 h2
  by_cases h : a = b
  · have z1 : w1 = 0 := by omega
    have z2 : w2 = 0 := by omega
    rw [e4, e3, z1, z2, if_pos h]; simp
  · have z : w1 = 1 \/ w2 = 1 := by omega
    rw [e4, e3, if_neg h, if_pos z]; simp
theorem ifif {P : Prop} [Decidable P] : ((if P then (1 : Int) else 0) = 0 \/ (if P then (1 : Int) else 0) = 1) /\ ((if P then (1 : Int) else 0) = 1 ↔ P) := by
  by_cases h : P <;> simp [h]
def nzK (i : Nat) : List Con := [.sub64 (5 + 6 * i) (6 + 6 * i) (.const 0) (.var i) (.const 0), .eq (7 + 6 * i) (.bin .or .u64 (.const 0) (.var (6 + 6 * i))), .eq (8 + 6 * i) (.bin .xor .u64 (.const 1) (.var (7 + 6 * i))), .eq (9 + 6 * i) (.bin .and .u64 (if i = 0 then .const 1 else .var (3 + 6 * i)) (.var (8 + 6 * i)))]
def nizLk : Look := ⟨[.var 27], b4 0 ++ (List.range 4).flatMap (fun i => [(5 + 6 * i, W64'), (6 + 6 * i, (0, 1))]), (List.range 4).flatMap nzK, []⟩
def eqK (i : Nat) : List Con := [.sub64 (8 + 7 * i) (9 + 7 * i) (.var i) (.var (4 + i)) (.const 0), .sub64 (10 + 7 * i) (11 + 7 * i) (.var (4 + i)) (.var i) (.const 0), .eq (12 + 7 * i) (.bin .or .u64 (.var (9 + 7 * i)) (.var (11 + 7 * i))), .eq (13 + 7 * i) (.bin .xor .u64 (.const 1) (.var (12 + 7 * i))), .eq (14 + 7 * i) (.bin .and .u64 (if i = 0 then .const 1 else .var (7 + 7 * i)) (.var (13 + 7 * i)))]
def neqLk : Look := ⟨[.var 35], b4 0 ++ b4 4 ++ (List.range 4).flatMap (fun i => [(8 + 7 * i, W64'), (9 + 7 * i, (0, 1)), (10 + 7 * i, W64'), (11 + 7 * i, (0, 1))]), (List.range 4).flatMap eqK, []⟩
section
variable {X : Tk} {ρ : Nat -> Int}
theorem words_of {L : Look} (hs : Seen X L ρ) {i : Nat} (h : ∀ x ∈ b4 i, x ∈ L.bds) : ∀ j, j < 4 -> w64OK (ρ (i + j)) := fun j hj => by
  match j, hj with
  | 0, _ => exact hs.bds _ (h (i, W64') (by simp [b4]))
  | 1, _ => exact hs.bds _ (h (i + 1, W64') (by simp [b4]))
  | 2, _ => exact hs.bds _ (h (i + 2, W64') (by simp [b4]))
  | 3, _ =>
    have := hs.bds _ (h (i + 3, (0, 4294967295)) (by simp [b4]))
    simp only at this
    exact ⟨this.1, by show ρ (i + 3) <= _; omega⟩
theorem bit_of {x : Int} (h : (0 : Int) <= x /\ x <= 1) : x = 0 \/ x = 1 := by omega
theorem niz_end (h : FR X) : EndP X nizS 0 nizLk := by
  refine endP_of _ 92 _ rfl rfl (fun ρ => Q4 ρ 0 ++ [ρ 27]) (fun ρ => by kernel_rfl) fun ρ hs => (h.niz _).2 ?_
  have hv := words_of hs (i := 0) fun x hx => List.mem_append_left _ hx
  have hx : ∀ i, i < 4 -> ρ (8 + 6 * i) = if ρ i = 0 then 1 else 0 := fun i hi => by
    have hm : ∀ c ∈ nzK i, c.holds X ρ := fun c hc => hs.ks c (List.mem_flatMap.2 ⟨i, List.mem_range.2 hi, hc⟩)
    have hb : ∀ x ∈ [(5 + 6 * i, W64'), (6 + 6 * i, ((0 : Int), (1 : Int)))], x ∈ nizLk.bds := fun x hx => List.mem_append_right _ (List.mem_flatMap.2 ⟨i, List.mem_range.2 hi, hx⟩)
    have v := hv i hi
    rw [Nat.zero_add] at v
    exact nz_word v (hs.bds _ (hb (5 + 6 * i, W64') (by simp))) (bit_of (hs.bds _ (hb (6 + 6 * i, (0, 1)) (by simp)))) (hm (.sub64 (5 + 6 * i) (6 + 6 * i) (.const 0) (.var i) (.const 0)) (by simp [nzK])) (hm (.eq (7 + 6 * i) (.bin .or .u64 (.const 0) (.var (6 + 6 * i)))) (by simp [nzK])) (hm (.eq (8 + 6 * i) (.bin .xor .u64 (.const 1) (.var (7 + 6 * i)))) (by simp [nzK]))
  have k0 : ρ 9 = intBin .and .u64 1 (ρ 8) := hs.ks (.eq 9 (.bin .and .u64 (.const 1) (.var 8))) (by simp [nizLk, nzK, List.range, List.range.loop])
  have k1 : ρ 15 = intBin .and .u64 (ρ 9) (ρ 14) := hs.ks (.eq 15 (.bin .and .u64 (.var 9) (.var 14))) (by simp [nizLk, nzK, List.range, List.range.loop])
  have k2 : ρ 21 = intBin .and .u64 (ρ 15) (ρ 20) := hs.ks (.eq 21 (.bin .and .u64 (.var 15) (.var 20))) (by simp [nizLk, nzK, List.range, List.range.loop])
  have k3 : ρ 27 = intBin .and .u64 (ρ 21) (ρ 26) := hs.ks (.eq 27 (.bin .and .u64 (.var 21) (.var 26))) (by simp [nizLk, nzK, List.range, List.range.loop])
  have x0 : ρ 8 = _ := hx 0 (by omega)
  have x1 : ρ 14 = _ := hx 1 (by omega)
  have x2 : ρ 20 = _ := hx 2 (by omega)
  have x3 : ρ 26 = _ := hx 3 (by omega)
  have t1 := and_if True (ρ 0 = 0)
  rw [if_pos trivial] at t1
  rw [x0, t1] at k0
  rw [k0, x1, and_if] at k1
  rw [k1, x2, and_if] at k2
  rw [k2, x3, and_if] at k3
  have e : NizP (Q4 ρ 0 ++ [ρ 27]) = ((ρ 27 = 0 \/ ρ 27 = 1) /\ (ρ 27 = 1 ↔ wv4 [ρ 0, ρ 1, ρ 2, ρ 3] = 0)) := rfl
  rw [e, k3]
  refine ⟨ifif.1, ifif.2.trans ?_⟩
  rw [wv4_four]
  have v0 := hv 0 (by omega)
  have v1 := hv 1 (by omega)
  have v2 := hv 2 (by omega)
  have v3 := hv 3 (by omega)
  unfold w64OK at v0 v1 v2 v3
  simp only [Nat.zero_add] at v0 v1 v2 v3
  simp only [true_and]
  omega
theorem neq_end (h : FR X) : EndP X neqS 0 neqLk := by
  refine endP_of _ 98 _ rfl rfl (fun ρ => Q4 ρ 0 ++ Q4 ρ 4 ++ [ρ 35]) (fun ρ => by kernel_rfl) fun ρ hs => (h.neq _).2 ?_
  have hv := words_of hs (i := 0) fun x hx => List.mem_append_left _ (List.mem_append_left _ hx)
  have hu := words_of hs (i := 4) fun x hx => List.mem_append_left _ (List.mem_append_right _ hx)
  have hx : ∀ i, i < 4 -> ρ (13 + 7 * i) = if ρ i = ρ (4 + i) then 1 else 0 := fun i hi => by
    have hm : ∀ c ∈ eqK i, c.holds X ρ := fun c hc => hs.ks c (List.mem_flatMap.2 ⟨i, List.mem_range.2 hi, hc⟩)
    have hb : ∀ x ∈ [(8 + 7 * i, W64'), (9 + 7 * i, ((0 : Int), (1 : Int))), (10 + 7 * i, W64'), (11 + 7 * i, ((0 : Int), (1 : Int)))], x ∈ neqLk.bds := fun x hx => List.mem_append_right _ (List.mem_flatMap.2 ⟨i, List.mem_range.2 hi, hx⟩)
    have v := hv i hi
    rw [Nat.zero_add] at v
    exact eq_word v (hu i hi) (hs.bds _ (hb (8 + 7 * i, W64') (by simp))) (hs.bds _ (hb (10 + 7 * i, W64') (by simp))) (bit_of (hs.bds _ (hb (9 + 7 * i, (0, 1)) (by simp)))) (bit_of (hs.bds _ (hb (11 + 7 * i, (0, 1)) (by simp))))
      (hm (.sub64 (8 + 7 * i) (9 + 7 * i) (.var i) (.var (4 + i)) (.const 0)) (by simp [eqK])) (hm (.sub64 (10 + 7 * i) (11 + 7 * i) (.var (4 + i)) (.var i) (.const 0)) (by simp [eqK]))
      (hm (.eq (12 + 7 * i) (.bin .or .u64 (.var (9 + 7 * i)) (.var (11 + 7 * i)))) (by simp [eqK])) (hm (.eq (13 + 7 * i) (.bin .xor .u64 (.const 1) (.var (12 + 7 * i)))) (by simp [eqK]))
  have k0 : ρ 14 = intBin .and .u64 1 (ρ 13) := hs.ks (.eq 14 (.bin .and .u64 (.const 1) (.var 13))) (by simp [neqLk, eqK, List.range, List.range.loop])
  have k1 : ρ 21 = intBin .and .u64 (ρ 14) (ρ 20) := hs.ks (.eq 21 (.bin .and .u64 (.var 14) (.var 20))) (by simp [neqLk, eqK, List.range, List.range.loop])
  have k2 : ρ 28 = intBin .and .u64 (ρ 21) (ρ 27) := hs.ks (.eq 28 (.bin .and .u64 (.var 21) (.var 27))) (by simp [neqLk, eqK, List.range, List.range.loop])
  have k3 : ρ 35 = intBin .and .u64 (ρ 28) (ρ 34) := hs.ks (.eq 35 (.bin .and .u64 (.var 28) (.var 34))) (by simp [neqLk, eqK, List.range, List.range.loop])
  have x0 : ρ 13 = _ := hx 0 (by omega)
  have x1 : ρ 20 = _ := hx 1 (by omega)
  have x2 : ρ 27 = _ := hx 2 (by omega)
  have x3 : ρ 34 = _ := hx 3 (by omega)
  have t1 := and_if True (ρ 0 = ρ (4 + 0))
  rw [if_pos trivial] at t1
  rw [x0, t1] at k0
  rw [k0, x1, and_if] at k1
  rw [k1, x2, and_if] at k2
  rw [k2, x3, and_if] at k3
  have e : NeqP (Q4 ρ 0 ++ Q4 ρ 4 ++ [ρ 35]) = ((ρ 35 = 0 \/ ρ 35 = 1) /\ (ρ 35 = 1 ↔ wv4 [ρ 0, ρ 1, ρ 2, ρ 3] = wv4 [ρ 4, ρ 5, ρ 6, ρ 7])) := rfl
  rw [e, k3]
  refine ⟨ifif.1, ifif.2.trans ?_⟩
  rw [wv4_four, wv4_four]
  have v0 := hv 0 (by omega)
  have v1 := hv 1 (by omega)
  have v2 := hv 2 (by omega)
  have v3 := hv 3 (by omega)
  have u0 := hu 0 (by omega)
  have u1 := hu 1 (by omega)
  have u2 := hu 2 (by omega)
  have u3 := hu 3 (by omega)
  unfold w64OK at v0 v1 v2 v3 u0 u1 u2 u3
  simp only [Nat.zero_add] at v0 v1 v2 v3
  simp only [true_and, Nat.reduceAdd] at *
  clear k0 k1 k2 k3 x0 x1 x2 x3 t1 hx
  omega
end
theorem shr8w (x : Int) : intBin .shr .u64 x 8 = x / 256 := by simp only [intBin, fdiv_pow]; rfl
theorem low8 (x : Int) : IntKind.u8.wrap x = x % 256 := Go.IntKind.wrap_u8 _
def byK (x s n : Nat) : List Con := (List.range n).flatMap fun j => [.eq (s + 2 * j) (.wrap .u8 (.var (if j = 0 then x else s + 2 * j - 1))), .eq (s + 2 * j + 1) (.bin .shr .u64 (.var (if j = 0 then x else s + 2 * j - 1)) (.const 8))]
def nbyN : List IE := [54, 53, 51, 49, 47, 46, 44, 42, 40, 38, 36, 34, 32, 31, 29, 27, 25, 23, 21, 19, 17, 16, 14, 12, 10, 8, 6, 4].map .var
def nbyLk : Look := ⟨nbyN, b4 0, byK 0 4 7 ++ byK 1 19 7 ++ byK 2 34 7 ++ byK 3 49 3, []⟩
section
variable {X : Tk} {ρ : Nat -> Int}
theorem by_step {ks : List Con} (hk : ∀ c ∈ ks, c.holds X ρ) {x s n : Nat} (h : ∀ c ∈ byK x s n, c ∈ ks) : ∀ j, j < n -> ρ (s + 2 * j) = ρ (if j = 0 then x else s + 2 * j - 1) % 256 /\ ρ (s + 2 * j + 1) = ρ (if j = 0 then x else s + 2 * j - 1) / 256 := fun j hj => by
  have c0 := hk _ (h (.eq (s + 2 * j) (.wrap .u8 (.var (if j = 0 then x else s + 2 * j - 1)))) (List.mem_flatMap.2 ⟨j, List.mem_range.2 hj, by simp⟩))
  have c1 := hk _ (h (.eq (s + 2 * j + 1) (.bin .shr .u64 (.var (if j = 0 then x else s + 2 * j - 1)) (.const 8))) (List.mem_flatMap.2 ⟨j, List.mem_range.2 hj, by simp⟩))
  simp only [Con.holds, IE.eval] at c0 c1
  rw [low8] at c0
  rw [shr8w] at c1
  exact ⟨c0, c1⟩
theorem by_word {ks : List Con} (hk : ∀ c ∈ ks, c.holds X ρ) {x s : Nat} (h : ∀ c ∈ byK x s 7, c ∈ ks) (hx : w64OK (ρ x)) :
    (∀ b ∈ [ρ (s + 13), ρ (s + 12), ρ (s + 10), ρ (s + 8), ρ (s + 6), ρ (s + 4), ρ (s + 2), ρ s], byteOK b) /\ (∀ n : Int, [ρ (s + 13), ρ (s + 12), ρ (s + 10), ρ (s + 8), ρ (s + 6), ρ (s + 4), ρ (s + 2), ρ s].foldl (fun a b => a * 256 + b) n = n * 18446744073709551616 + ρ x) := by
  have st := by_step hk h
  have a0 := st 0 (by omega)
  have a1 := st 1 (by omega)
  have a2 := st 2 (by omega)
  have a3 := st 3 (by omega)
  have a4 := st 4 (by omega)
  have a5 := st 5 (by omega)
  have a6 := st 6 (by omega)
  simp only [if_true, Nat.reduceMul, Nat.add_zero, Nat.reduceEqDiff, if_false, Nat.add_assoc, Nat.reduceAdd, Nat.add_one_sub_one] at a0 a1 a2 a3 a4 a5 a6
  unfold w64OK at hx
  clear st hk h
  constructor
  · intro b hb
    simp only [List.mem_cons, List.not_mem_nil, or_false] at hb
    unfold byteOK
    rcases hb with rfl | rfl | rfl | rfl | rfl | rfl | rfl | rfl <;> omega
  · intro n
    simp only [List.foldl]
    omega
theorem by_word3 {ks : List Con} (hk : ∀ c ∈ ks, c.holds X ρ) {x s : Nat} (h : ∀ c ∈ byK x s 3, c ∈ ks) (hx : 0 <= ρ x /\ ρ x <= 4294967295) :
    (∀ b ∈ [ρ (s + 5), ρ (s + 4), ρ (s + 2), ρ s], byteOK b) /\ (∀ n : Int, [ρ (s + 5), ρ (s + 4), ρ (s + 2), ρ s].foldl (fun a b => a * 256 + b) n = n * 4294967296 + ρ x) := by
  have st := by_step hk h
  have a0 := st 0 (by omega)
  have a1 := st 1 (by omega)
  have a2 := st 2 (by omega)
  simp only [if_true, Nat.reduceMul, Nat.add_zero, Nat.reduceEqDiff, if_false, Nat.add_assoc, Nat.reduceAdd, Nat.add_one_sub_one] at a0 a1 a2
  clear st hk h
  constructor
  · intro b hb
    simp only [List.mem_cons, List.not_mem_nil, or_false] at hb
    unfold byteOK
    rcases hb with rfl | rfl | rfl | rfl <;> omega
  · intro n
    simp only [List.foldl]
    omega
theorem nby_end (h : FR X) : EndP X nbyS 0 nbyLk := by
  refine endP_of _ 96 _ rfl rfl (fun ρ => Q4 ρ 0 ++ [ρ 54, ρ 53, ρ 51, ρ 49, ρ 47, ρ 46, ρ 44, ρ 42, ρ 40, ρ 38, ρ 36, ρ 34, ρ 32, ρ 31, ρ 29, ρ 27, ρ 25, ρ 23, ρ 21, ρ 19, ρ 17, ρ 16, ρ 14, ρ 12, ρ 10, ρ 8, ρ 6, ρ 4]) (fun ρ => by kernel_rfl) fun ρ hs => (h.nby _).2 ?_
  have hv := words_of hs (i := 0) fun x hx => hx
  have h3 : 0 <= ρ 3 /\ ρ 3 <= 4294967295 := hs.bds (3, (0, 4294967295)) (by simp [nbyLk, b4])
  have w0 := by_word hs.ks (x := 0) (s := 4) (fun c hc => List.mem_append_left _ (List.mem_append_left _ (List.mem_append_left _ hc))) (hv 0 (by omega))
  have w1 := by_word hs.ks (x := 1) (s := 19) (fun c hc => List.mem_append_left _ (List.mem_append_left _ (List.mem_append_right _ hc))) (hv 1 (by omega))
  have w2 := by_word hs.ks (x := 2) (s := 34) (fun c hc => List.mem_append_left _ (List.mem_append_right _ hc)) (hv 2 (by omega))
  have w3 := by_word3 hs.ks (x := 3) (s := 49) (fun c hc => List.mem_append_right _ hc) h3
  have e : (Q4 ρ 0 ++ [ρ 54, ρ 53, ρ 51, ρ 49, ρ 47, ρ 46, ρ 44, ρ 42, ρ 40, ρ 38, ρ 36, ρ 34, ρ 32, ρ 31, ρ 29, ρ 27, ρ 25, ρ 23, ρ 21, ρ 19, ρ 17, ρ 16, ρ 14, ρ 12, ρ 10, ρ 8, ρ 6, ρ 4]).drop 4 = [ρ 54, ρ 53, ρ 51, ρ 49] ++ ([ρ 47, ρ 46, ρ 44, ρ 42, ρ 40, ρ 38, ρ 36, ρ 34] ++ ([ρ 32, ρ 31, ρ 29, ρ 27, ρ 25, ρ 23, ρ 21, ρ 19] ++ [ρ 17, ρ 16, ρ 14, ρ 12, ρ 10, ρ 8, ρ 6, ρ 4])) := rfl
  unfold NbyP
  rw [e]
  constructor
  · intro x hx
    rcases List.mem_append.1 hx with hx | hx
    · exact w3.1 x hx
    rcases List.mem_append.1 hx with hx | hx
    · exact w2.1 x hx
    rcases List.mem_append.1 hx with hx | hx
    · exact w1.1 x hx
    · exact w0.1 x hx
  · unfold bn
    rw [List.foldl_append, List.foldl_append, List.foldl_append]
    have q3 := w3.2 0
    have q2 := w2.2
    have q1 := w1.2
    have q0 := w0.2
    simp only [Nat.reduceAdd] at q0 q1 q2 q3
    rw [q3, q2, q1, q0]
    have e4 : wv4 (Q4 ρ 0 ++ [ρ 54, ρ 53, ρ 51, ρ 49, ρ 47, ρ 46, ρ 44, ρ 42, ρ 40, ρ 38, ρ 36, ρ 34, ρ 32, ρ 31, ρ 29, ρ 27, ρ 25, ρ 23, ρ 21, ρ 19, ρ 17, ρ 16, ρ 14, ρ 12, ρ 10, ρ 8, ρ 6, ρ 4]) = wv4 [ρ 0, ρ 1, ρ 2, ρ 3] := rfl
    rw [e4, wv4_four]
    omega
end
section
variable {X : Tk}
theorem nsb_words {ρ : Nat -> Int} {b : Bool} (hs : Seen X (nsbLk b) ρ) : wordsOK [ρ 30, ρ 33, ρ 36, ρ 40] := fun i hi => by
  obtain ⟨a0, a1, a2, a3, _, _⟩ := nsb_core hs
  match i, hi with
  | 0, _ => exact a0
  | 1, _ => exact a1
  | 2, _ => exact a2
  | 3, _ => exact a3
theorem nsb_end0 (h : FR X) : EndP X nsbS2 0 (nsbLk false) := by
  refine endP_of _ 90 _ rfl rfl (fun ρ => (List.range 28).map ρ ++ [ρ 30, ρ 33, ρ 36, ρ 40]) (fun ρ => by kernel_rfl) fun ρ hs => (h.sby _).2 ?_
  obtain ⟨_, _, _, _, a4, a5⟩ := nsb_core hs
  refine Eq.mp (by kernel_rfl : (wordsOK [ρ 30, ρ 33, ρ 36, ρ 40] /\ wv4 [ρ 30, ρ 33, ρ 36, ρ 40] = bnR ρ 28 /\ bnR ρ 28 < n224) = _) ?_
  exact ⟨nsb_words hs, a4, a5.2 rfl⟩
theorem nsb_end1 (h : FR X) : EndP X nsbS2 1 (nsbLk true) := by
  refine endP_of _ 91 _ rfl rfl (fun ρ => (List.range 28).map ρ ++ [ρ 30, ρ 33, ρ 36, ρ 40]) (fun ρ => by kernel_rfl) fun ρ hs => (h.sbn _).2 ?_
  obtain ⟨_, _, _, _, _, a5⟩ := nsb_core hs
  refine Eq.mp (by kernel_rfl : (wordsOK [ρ 30, ρ 33, ρ 36, ρ 40] /\ ¬ bnR ρ 28 < n224) = _) ?_
  exact ⟨nsb_words hs, fun q => absurd (a5.1 q) (by decide)⟩
theorem nso_end (h : FR X) {m ty : Nat} (hm : m < 29) : EndP X (nsoS m ty) 0 (nsoLk m) := by
  refine endP_of (s := nsoS m ty) _ 97 _ rfl rfl (fun ρ => (List.range m).map ρ ++ Q4 ρ (dOf m + 11)) (fun ρ => ?_) fun ρ hs => (h.sov _).2 ?_
  · have e : vars 0 (m + 4) = vars 0 m ++ vars m 4 := by
      unfold vars
      rw [List.range_add, List.map_append, List.map_map]
      congr 1
      refine List.map_congr_left fun x _ => ?_
      simp only [Function.comp]
      congr 1; omega
    have nv : (nsoS m ty).nv = m := by simp [Sm.nv, nsoS]
    rw [e, List.map_append, nv]
    congr 1
    · rw [vars_eval]
      refine List.map_congr_left fun x hx => ?_
      unfold numsOf
      rw [if_pos (by have := List.mem_range.1 hx; omega), Nat.zero_add]
    · rw [vars_eval]
      show [_, _, _, _] = [_, _, _, _]
      simp only [numsOf, nsoLk, vars, Nat.lt_irrefl, if_false, Nat.add_zero, Nat.sub_self]
      have g : ∀ j, ¬ (m + j < m) := fun j => by omega
      have g2 : ∀ j, m + j - m = j := fun j => by omega
      simp [g, g2, List.range, List.range.loop, IE.eval]
  · obtain ⟨a, b⟩ := nso_core hm hs
    have e1 : ((List.range m).map ρ ++ Q4 ρ (dOf m + 11)).length - 4 = ((List.range m).map ρ).length := by simp [Q4]
    unfold SovP
    rw [e1, List.drop_left, List.take_left]
    exact ⟨a, b⟩
theorem tight_of {s : Sm} {o : SmO} (hl : o.nbd.length = 4) (hw : (∀ x ∈ o.post, ∀ σ : Nat -> Int, X x.1 (x.2.map (IE.eval σ)) -> okN (Q4 σ s.nv))) (he : o.post ≠ []) : Tighter X s o W4 := by
  refine ⟨hl.symm, fun σ hp i r hr => ?_⟩
  obtain ⟨x, hx⟩ := List.exists_mem_of_ne_nil _ he
  have := top32 (hw x hx σ (hp x hx)) i r hr
  match i, hr with
  | 0, hr => exact this
  | 1, hr => exact this
  | 2, hr => exact this
  | 3, hr => exact this
  | n + 4, hr => simp [W4] at hr
end
def ninS : Sm := { bd := W4, args := [.ptr 0 0, .ptr 7 0, .ptr 9 0], mem := crvBs 0 ++ [natB 8 0, limbB [], natB 10 4, limbV 0], al := [], outs := [{ nbd := List.replicate 4 W64, val := .tup [], writes := [(7, [.slice 8 0 4 32]), (8, limbC 4)], news := [], post := [(94, vars 0 8)] }] }
def htnS : Sm := { bd := [(1, 200)], args := [.ptr 0 0, .ptr 7 0, .lslice true 9 0 (.var 0) 0], mem := crvBs 0 ++ [natB 8 0, limbB [], ⟨5, [], false⟩], al := [], lens := [(9, 0)], outs := [{ nbd := List.replicate 4 W64, val := .tup [], writes := [(7, [.slice 8 0 4 32]), (8, limbC 1)], news := [], post := [(93, vars 1 4)] }] }
def expS2 : Sm := { bd := W4, args := [.ptr 0 0, .ptr 2 0, .slice 4 0 28 28, .ptr 5 0], mem := [natB 1 0, limbB [], natB 3 4, limbV 0, ⟨5, nm2B, true⟩] ++ modBs 5, al := [], outs := [{ nbd := List.replicate 4 W64, val := .ptr 0 0, writes := [(0, [.slice 1 0 4 32]), (1, limbC 4)], news := [], post := [(94, vars 0 8)] }] }
def NmuP (l : List Int) : Prop := okN (l.drop 8) /\ vn (l.drop 8) = vn l * vn (l.drop 4)
def NinP (l : List Int) : Prop := okN (l.drop 4) /\ vn (l.drop 4) = (OF nN).pw (vn l) nm2
def HtnP (hs l : List Int) : Prop := okN l /\ wv4 l = bn (hs.take 28) % n224
structure FS (X : Tk) : Prop extends FR X where
  nmu : ∀ l, X 95 l ↔ NmuP l
  nin : ∀ l, X 94 l ↔ NinP l
structure GS (X : Tk) (hs : List Int) : Prop extends FS X where
  long : ∀ l, X 57 l -> l = hs
  hby : ∀ x ∈ hs, 0 <= x /\ x <= 255
  htn : ∀ l, X 93 l ↔ HtnP hs l
def en (l : List Int) : N4 := vn l * Rn
section
variable {p : Nat} [NeZero p]
theorem fr2 (x y i k : Fin p) (h : k * i * i = 1) : x * k * i * y * i = x * y := by grobner
theorem fr3 (a b i : Fin p) : a * b * i * i = a * i * (b * i) := by grobner
theorem fr4 (x i k : Fin p) (h : k * i * i = 1) : x * k * i * i = x := by grobner
theorem fr6 (t y i : Fin p) : t * y * i = t * i * y := by grobner
theorem fr5 (x i : Fin p) : x * 1 * i = x * i := by grobner
end
theorem RRn : vn rrL * Rn * Rn = 1 := by
  unfold vn Rn
  rw [<- ψ_mul, <- ψ_mul, <- ψ_one]
  exact ψ_eq (by decide)
theorem vn_one : vn [1, 0, 0, 0] = 1 := by
  unfold vn
  rw [<- ψ_one]
  exact ψ_eq (by decide)
section
variable {X : Tk} {ρ : Nat -> Int}
theorem mmE (h : FP X) {a b r : List Int} (ha : a.length = 4) (hb : b.length = 4) (hr : r.length = 4) (t : X 89 (a ++ b ++ r)) : okN r /\ vn r = vn a * vn b * Rn := by
  obtain ⟨σ, rfl⟩ := of4 ha
  obtain ⟨τ, rfl⟩ := of4 hb
  obtain ⟨υ, rfl⟩ := of4 hr
  exact Eq.mp (by kernel_rfl) ((h.mm _).1 t)
theorem mmEn (h : FP X) {a b r : List Int} (ha : a.length = 4) (hb : b.length = 4) (hr : r.length = 4) (t : X 89 (a ++ b ++ r)) : okN r /\ en r = en a * en b := by
  obtain ⟨h1, h2⟩ := mmE h ha hb hr t
  refine ⟨h1, ?_⟩
  unfold en
  rw [h2]
  exact fr3 _ _ _
theorem mmRR (h : FP X) {a r : List Int} (ha : a.length = 4) (hr : r.length = 4) (t : X 89 (a ++ rrL ++ r)) : okN r /\ en r = vn a := by
  obtain ⟨h1, h2⟩ := mmE h ha rfl hr t
  refine ⟨h1, ?_⟩
  unfold en
  rw [h2]
  exact fr4 _ _ _ RRn
theorem mmOut (h : FP X) {a r : List Int} (ha : a.length = 4) (hr : r.length = 4) (t : X 89 (a ++ [1, 0, 0, 0] ++ r)) : okN r /\ vn r = en a := by
  obtain ⟨h1, h2⟩ := mmE h ha rfl hr t
  refine ⟨h1, ?_⟩
  rw [h2, vn_one]
  exact fr5 _ _
def nmuLk : Look := ⟨vars 12 4, [], [.ext 89 (vars 0 4 ++ cs rrL ++ vars 8 4), .ext 89 (vars 8 4 ++ vars 4 4 ++ vars 12 4)], []⟩
theorem nmu_end (h : FS X) : EndP X nmuS 0 nmuLk := by
  refine endP_of _ 95 _ rfl rfl (fun ρ => Q4 ρ 0 ++ Q4 ρ 4 ++ Q4 ρ 12) (fun ρ => by kernel_rfl) fun ρ hs => (h.nmu _).2 ?_
  have t1 : X 89 (Q4 ρ 0 ++ rrL ++ Q4 ρ 8) := tokAt hs 0 (by kernel_rfl)
  have t2 : X 89 (Q4 ρ 8 ++ Q4 ρ 4 ++ Q4 ρ 12) := tokAt hs 1 (by kernel_rfl)
  obtain ⟨a1, a2⟩ := mmRR h.toFP rfl rfl t1
  obtain ⟨b1, b2⟩ := mmE h.toFP rfl rfl rfl t2
  refine Eq.mp (by kernel_rfl : (okN (Q4 ρ 12) /\ vn (Q4 ρ 12) = vn (Q4 ρ 0) * vn (Q4 ρ 4)) = _) ⟨b1, ?_⟩
  rw [b2, <- a2]
  unfold en
  exact fr6 _ _ _
end
def asgS0 : Sm := { bd := List.replicate 8 W64, args := [.ptr 0 0, .int .u64 (.const 0), .ptr 2 0], mem := [natB 1 4, limbV 0, natB 3 4, limbV 4], al := [], outs := [{ nbd := [], val := .ptr 0 0, writes := [(1, limbC 0)], news := [], post := [] }] }
def asgS1 : Sm := { bd := List.replicate 8 W64, args := [.ptr 0 0, .int .u64 (.const 1), .ptr 2 0], mem := [natB 1 4, limbV 0, natB 3 4, limbV 4], al := [], outs := [{ nbd := [], val := .ptr 0 0, writes := [(1, limbC 4)], news := [], post := [] }] }
def ninT : List (Nat × Nat × Nat) := [(4, 4, 8), (8, 4, 12), (12, 4, 16), (16, 4, 20), (20, 4, 24), (24, 4, 28), (28, 4, 32), (32, 4, 36), (36, 4, 40), (40, 4, 44), (44, 4, 48), (48, 4, 52), (52, 4, 56), (56, 4, 60), (64, 64, 68), (68, 68, 72), (72, 72, 76), (76, 76, 80), (80, 60, 84), (84, 84, 88), (88, 88, 92), (92, 92, 96), (96, 96, 100), (100, 60, 104), (104, 104, 108), (108, 108, 112), (112, 112, 116), (116, 116, 120), (120, 60, 124), (124, 124, 128), (128, 128, 132), (132, 132, 136), (136, 136, 140), (140, 60, 144), (144, 144, 148), (148, 148, 152), (152, 152, 156), (156, 156, 160), (160, 60, 164), (164, 164, 168), (168, 168, 172), (172, 172, 176), (176, 176, 180), (180, 60, 184), (184, 184, 188), (188, 188, 192), (192, 192, 196), (196, 196, 200), (200, 60, 204), (204, 204, 208), (208, 208, 212), (212, 212, 216), (216, 216, 220), (220, 60, 224), (224, 224, 228), (228, 228, 232), (232, 232, 236), (236, 236, 240), (240, 60, 244), (244, 244, 248), (248, 248, 252), (252, 252, 256), (256, 256, 260), (260, 60, 264), (264, 264, 268), (268, 268, 272), (272, 272, 276), (276, 276, 280), (280, 60, 284), (284, 284, 288), (288, 288, 292), (292, 292, 296), (296, 296, 300), (300, 60, 304), (304, 304, 308), (308, 308, 312), (312, 312, 316), (316, 316, 320), (320, 60, 324), (324, 324, 328), (328, 328, 332), (332, 332, 336), (336, 336, 340), (340, 60, 344), (344, 344, 348), (348, 348, 352), (352, 352, 356), (356, 356, 360), (360, 60, 364), (364, 364, 368), (368, 368, 372), (372, 372, 376), (376, 376, 380), (380, 60, 384), (384, 384, 388), (388, 388, 392), (392, 392, 396), (396, 396, 400), (400, 60, 404), (404, 404, 408), (408, 408, 412), (412, 412, 416), (416, 416, 420), (420, 60, 424), (424, 424, 428), (428, 428, 432), (432, 432, 436), (436, 436, 440), (440, 60, 444), (444, 444, 448), (448, 448, 452), (452, 452, 456), (456, 456, 460), (460, 60, 464), (464, 464, 468), (468, 468, 472), (472, 472, 476), (476, 476, 480), (480, 60, 484), (484, 484, 488), (488, 488, 492), (492, 492, 496), (496, 496, 500), (500, 60, 504), (504, 504, 508), (508, 508, 512), (512, 512, 516), (516, 516, 520), (520, 60, 524), (524, 524, 528), (528, 528, 532), (532, 532, 536), (536, 536, 540), (540, 60, 544), (544, 544, 548), (548, 548, 552), (552, 552, 556), (556, 556, 560), (560, 60, 564), (564, 564, 568), (568, 568, 572), (572, 572, 576), (576, 576, 580), (580, 60, 584), (584, 584, 588), (588, 588, 592), (592, 592, 596), (596, 596, 600), (600, 60, 604), (604, 604, 608), (608, 608, 612), (612, 612, 616), (616, 616, 620), (620, 60, 624), (624, 624, 628), (628, 628, 632), (632, 632, 636), (636, 636, 640), (640, 4, 644), (644, 644, 648), (648, 648, 652), (652, 652, 656), (656, 656, 660), (660, 24, 664), (664, 664, 668), (668, 668, 672), (672, 672, 676), (676, 676, 680), (680, 40, 684), (684, 684, 688), (688, 688, 692), (692, 692, 696), (696, 696, 700), (700, 8, 704), (704, 704, 708), (708, 708, 712), (712, 712, 716), (716, 716, 720), (720, 56, 724), (724, 724, 728), (728, 728, 732), (732, 732, 736), (736, 736, 740), (740, 724, 744), (740, 740, 748), (748, 748, 752), (752, 752, 756), (756, 756, 760), (760, 44, 764), (764, 764, 768), (768, 768, 772), (772, 772, 776), (776, 776, 780), (780, 32, 784), (784, 784, 788), (788, 788, 792), (792, 792, 796), (796, 796, 800), (800, 60, 804), (804, 804, 808), (808, 808, 812), (812, 812, 816), (816, 816, 820), (820, 804, 824), (820, 820, 828), (828, 828, 832), (832, 832, 836), (836, 836, 840), (840, 12, 844), (844, 844, 848), (848, 848, 852), (852, 852, 856), (856, 856, 860), (860, 56, 864), (864, 864, 868), (868, 868, 872), (872, 872, 876), (876, 876, 880), (880, 4, 884), (884, 884, 888), (888, 888, 892), (892, 892, 896), (896, 896, 900), (900, 12, 904), (904, 904, 908), (908, 908, 912), (912, 912, 916), (916, 916, 920), (920, 52, 924), (924, 924, 928), (928, 928, 932), (932, 932, 936), (936, 936, 940), (940, 52, 944), (944, 944, 948), (948, 948, 952), (952, 952, 956), (956, 956, 960), (960, 8, 964), (964, 964, 968), (968, 968, 972), (972, 972, 976), (976, 976, 980), (980, 36, 984), (984, 984, 988), (988, 988, 992), (992, 992, 996), (996, 996, 1000), (1000, 16, 1004), (1004, 1004, 1008), (1008, 1008, 1012), (1012, 1012, 1016), (1016, 1016, 1020), (1020, 20, 1024), (1024, 1024, 1028), (1028, 1028, 1032), (1032, 1032, 1036), (1036, 1036, 1040), (1040, 20, 1044), (1044, 1044, 1048), (1048, 1048, 1052), (1052, 1052, 1056), (1056, 1056, 1060), (1060, 48, 1064), (1064, 1064, 1068), (1068, 1068, 1072), (1072, 1072, 1076), (1076, 1076, 1080), (1080, 20, 1084), (1084, 1084, 1088), (1088, 1088, 1092), (1092, 1092, 1096), (1096, 1096, 1100), (1100, 48, 1104), (1104, 1104, 1108), (1108, 1108, 1112), (1112, 1112, 1116), (1116, 1116, 1120), (1120, 8, 1124), (1124, 1124, 1128), (1128, 1128, 1132), (1132, 1132, 1136), (1136, 1136, 1140), (1140, 40, 1144), (1144, 1144, 1148), (1148, 1148, 1152), (1152, 1152, 1156), (1156, 1156, 1160), (1160, 12, 1164), (1164, 1164, 1168), (1168, 1168, 1172), (1172, 1172, 1176), (1176, 1176, 1180), (1180, 44, 1184)]
def ninC (t : Nat × Nat × Nat) : Con := .ext 89 (vars t.1 4 ++ vars t.2.1 4 ++ vars t.2.2 4)
def ninLk : Look := ⟨vars 1188 4, [], [.ext 89 (vars 0 4 ++ cs rrL ++ vars 4 4), .ext 89 (cs [1, 0, 0, 0] ++ cs rrL ++ vars 64 4), .ext 89 (vars 1184 4 ++ cs [1, 0, 0, 0] ++ vars 1188 4)] ++ ninT.map ninC, []⟩
def ninOK : Bool := match expRun ninT [(64, 0), (4, 1)] with | some st => (match expGet st 1184 with | some e => e == nm2 | none => false) | none => false
theorem ninOK_ok : ninOK = true := by kernel_rfl
section
variable {X : Tk} {ρ : Nat -> Int}
def ExpN (ρ : Nat -> Int) (x : N4) (st : List (Nat × Nat)) : Prop := ∀ i e, expGet st i = some e -> en (Q4 ρ i) = (OF nN).pw x e
theorem expN_spec (h : FP X) (x : N4) : ∀ (ts : List (Nat × Nat × Nat)) (st st' : List (Nat × Nat)), (∀ t ∈ ts, (ninC t).holds X ρ) -> expRun ts st = some st' -> ExpN ρ x st -> ExpN ρ x st'
  | [], st, st', _, hr, hi => by
    simp only [expRun, Option.some.injEq] at hr
    subst hr; exact hi
  | t :: ts, st, st', ht, hr, hi => by
    simp only [expRun] at hr
    split at hr
    · rename_i a b ha hb
      refine expN_spec h x ts _ st' (fun u hu => ht u (by simp [hu])) hr ?_
      intro i e he
      unfold expGet at he
      split at he
      · rename_i hii
        have hii := beq_iff_eq.1 hii
        simp only [Option.some.injEq] at he
        subst hii; subst he
        have tk : X 89 (Q4 ρ t.1 ++ Q4 ρ t.2.1 ++ Q4 ρ t.2.2) := tok (ht t (by simp)) (by rw [List.map_append, List.map_append, vars4_eval, vars4_eval, vars4_eval])
        obtain ⟨_, r2⟩ := mmEn h rfl rfl rfl tk
        rw [r2, hi _ _ ha, hi _ _ hb, pwF_add]
      · exact hi i e he
    · cases hr
theorem exp_end (h : FS X) : EndP X expS2 0 ninLk := by
  refine endP_of _ 94 _ rfl rfl (fun ρ => Q4 ρ 0 ++ Q4 ρ 1188) (fun ρ => by kernel_rfl) fun ρ hs => (h.nin _).2 ?_
  have t0 : X 89 (Q4 ρ 0 ++ rrL ++ Q4 ρ 4) := tok (hs.ks (.ext 89 (vars 0 4 ++ cs rrL ++ vars 4 4)) (List.mem_append_left _ (by simp))) (by kernel_rfl)
  have t1 : X 89 ([1, 0, 0, 0] ++ rrL ++ Q4 ρ 64) := tok (hs.ks (.ext 89 (cs [1, 0, 0, 0] ++ cs rrL ++ vars 64 4)) (List.mem_append_left _ (by simp))) (by kernel_rfl)
  have t2 : X 89 (Q4 ρ 1184 ++ [1, 0, 0, 0] ++ Q4 ρ 1188) := tok (hs.ks (.ext 89 (vars 1184 4 ++ cs [1, 0, 0, 0] ++ vars 1188 4)) (List.mem_append_left _ (by simp))) (by kernel_rfl)
  have a0 := (mmRR h.toFP rfl rfl t0).2
  have a1 := (mmRR h.toFP rfl rfl t1).2
  obtain ⟨o1, o2⟩ := mmOut h.toFP rfl rfl t2
  refine Eq.mp (by kernel_rfl : (okN (Q4 ρ 1188) /\ vn (Q4 ρ 1188) = (OF nN).pw (vn (Q4 ρ 0)) nm2) = _) ⟨o1, ?_⟩
  have hk := ninOK_ok
  unfold ninOK at hk
  split at hk
  · rename_i st hst
    have hI := expN_spec (ρ := ρ) h.toFP (vn (Q4 ρ 0)) ninT [(64, 0), (4, 1)] st (fun t ht => hs.ks (ninC t) (List.mem_append_right _ (List.mem_map.2 ⟨t, ht, rfl⟩))) hst (fun i e he => by
      unfold expGet at he
      split at he
      · rename_i hii
        have hii := beq_iff_eq.1 hii
        simp only [Option.some.injEq] at he hii
        subst he
        subst hii
        rw [a1, vn_one]
        rfl
      · unfold expGet at he
        split at he
        · rename_i hii
          have hii := beq_iff_eq.1 hii
          simp only [Option.some.injEq] at he hii
          subst he
          subst hii
          rw [a0]
          exact (fp2 _).symm
        · cases he)
    split at hk
    · rename_i e he
      have := beq_iff_eq.1 hk
      subst this
      rw [o2]
      exact hI _ _ he
    · cases hk
  · cases hk
end
def ninLk2 : Look := ⟨vars 4 4, [], [.ext 94 (vars 0 8)], []⟩
theorem nin_end {X : Tk} : EndP X ninS 0 ninLk2 := endP_same _ 94 _ (vars 0 8) rfl rfl (by simp [ninLk2]) fun ρ => by kernel_rfl
def htnL (L : Nat) : Look := ⟨vars L 4, [], [.ext 97 (vars 0 (min L 28) ++ vars L 4)], []⟩
section
variable {X : Tk}
theorem htn_end {hs : List Int} (h : GS X hs) {L : Nat} (hlen : hs.length = L) {ρ : Nat -> Int} (hS : Seen X (htnL L) ρ) (hρ : ∀ (i : Nat) x, hs[i]? = some x -> ρ i = x) : HtnP hs ((vars L 4).map (IE.eval ρ)) := by
  have ehl : (List.range (min L 28)).map ρ = hs.take 28 := by
    apply List.ext_getElem?
    intro i
    rw [List.getElem?_map, List.getElem?_take]
    by_cases hi : i < min L 28
    · rw [List.getElem?_range hi, if_pos (by omega), List.getElem?_eq_getElem (by omega)]
      simp only [Option.map_some]
      rw [hρ i _ (List.getElem?_eq_getElem (by omega))]
    · rw [List.getElem?_eq_none (by simp; omega)]
      simp only [Option.map_none]
      split
      · rw [List.getElem?_eq_none (by omega)]
      · rfl
  have t0 : X 97 ((List.range (min L 28)).map ρ ++ Q4 ρ L) := tok (hS.ks (.ext 97 (vars 0 (min L 28) ++ vars L 4)) (by simp [htnL])) (by
    rw [List.map_append, vars4_eval, vars_eval]
    congr 1
    exact List.map_congr_left fun x _ => by rw [Nat.zero_add])
  have t := (h.sov _).1 t0
  have e1 : ((List.range (min L 28)).map ρ ++ Q4 ρ L).length - 4 = ((List.range (min L 28)).map ρ).length := by simp [Q4]
  unfold SovP at t
  rw [e1, List.drop_left, List.take_left, ehl] at t
  rw [vars4_eval]
  exact t
end
open Go.Proofs.YtmogojlijkddpaaGreat (Q12 of12)
def pvS : Sm := { bd := List.replicate 113 (0, 255) ++ [(1, 200)], args := [.view 0 0 57, .lslice true 1 0 (.var 113) 0, .view 2 0 28, .view 3 0 28], mem := [⟨5, bytV 0 57, false⟩, ⟨5, [], false⟩, ⟨5, bytV 57 28, false⟩, ⟨5, bytV 85 28, false⟩], al := [0, 1, 2, 3], lens := [(1, 113)], outs := [{ nbd := [], val := .tup [.bool true, .bool true], writes := [], news := [], post := [(99, vars 0 113)] }, { nbd := [], val := .tup [.bool false, .bool true], writes := [], news := [], post := [(100, vars 0 113)] }, { nbd := [], val := .tup [.bool false, .bool false], writes := [], news := [], post := [(101, vars 0 57)] }] }
def pvV (hs l : List Int) : Bool := verF (bn ((l.drop 1).take 28)) (bn ((l.drop 29).take 28)) ((l.drop 57).take 28) ((l.drop 85).take 28) (hs.take 28)
def PvyP (hs l : List Int) : Prop := isPt l /\ pvV hs l = true
def PvnP (hs l : List Int) : Prop := isPt l -> pvV hs l = false
structure GT (X : Tk) (hs : List Int) : Prop extends GS X hs where
  pvy : ∀ l, X 99 l ↔ PvyP hs l
  pvn : ∀ l, X 100 l ↔ PvnP hs l
  pvx : ∀ l, X 101 l ↔ ¬ isPt l
theorem ψ_ipw (a : Int) (n : Nat) : ψ (ipw a n) = (OF nN).pw (ψ a) n := by
  induction n with
  | zero => exact ψ_one
  | succ n ih =>
    rw [ipw_succ, ψ_mul, ih]
    exact Fin.mul_comm _ _
theorem ψ_mod (a : Int) : ψ (a % n224) = ψ a := ψ_eq (by simp)
theorem ψ_val (a : Int) : ((ψ a).val : Int) = a % n224 := by
  rw [n224_eq]
  exact zc_val a
theorem okN_val {l : List Int} (h : okN l) {x : Int} (e : vn l = ψ x) : wv4 l = x % n224 := by
  rw [<- vn_val h, e, ψ_val]
def B57' (ρ : Nat -> Int) (i : Nat) : List Int := (List.range 57).map fun j => ρ (i + j)
def B113 (ρ : Nat -> Int) : List Int := (List.range 113).map ρ
section
variable {X : Tk} {hs : List Int} {ρ : Nat -> Int}
theorem spF (h : GS X hs) {i : Nat} (t : X 77 ((List.range 57).map ρ ++ Q4 ρ i ++ Q4 ρ (i + 4))) : isPt ((List.range 57).map ρ) /\ okP (Q4 ρ i ++ Q4 ρ (i + 4) ++ oneL) /\ pt (Q4 ρ i ++ Q4 ρ (i + 4) ++ oneL) = (φ (bn (B28 ρ 1)), φ (bn (B28 ρ 29)), 1) := by
  have t' : isPt ((List.range 57).map ρ) /\ okE (Q4 ρ i) /\ okE (Q4 ρ (i + 4)) /\ dv (Q4 ρ i) = φ (bn (B28 ρ 1)) /\ dv (Q4 ρ (i + 4)) = φ (bn (B28 ρ 29)) := Eq.mp (by kernel_rfl) ((h.sp _).1 t)
  obtain ⟨a, b, c, d, e⟩ := t'
  refine ⟨a, Eq.mp (by kernel_rfl : (okE (Q4 ρ i) /\ okE (Q4 ρ (i + 4)) /\ okE oneL) = _) ⟨b, c, by decide, by decide⟩, ?_⟩
  have e2 : pt (Q4 ρ i ++ Q4 ρ (i + 4) ++ oneL) = (dv (Q4 ρ i), dv (Q4 ρ (i + 4)), dv oneL) := rfl
  rw [e2, d, e, dv_one]
theorem sbyF (h : GS X hs) {i j : Nat} (t : X 90 (B28 ρ i ++ Q4 ρ j)) : wordsOK (Q4 ρ j) /\ wv4 (Q4 ρ j) = bn (B28 ρ i) /\ bn (B28 ρ i) < n224 := Eq.mp (by kernel_rfl) ((h.sby _).1 t)
theorem sbnF (h : GS X hs) {i j : Nat} (t : X 91 (B28 ρ i ++ Q4 ρ j)) : ¬ bn (B28 ρ i) < n224 := by
  have t' : wordsOK (Q4 ρ j) /\ ¬ bn (B28 ρ i) < n224 := Eq.mp (by kernel_rfl) ((h.sbn _).1 t)
  exact t'.2
theorem nizF (h : GS X hs) {i : Nat} (t : X 92 (Q4 ρ i ++ [ρ (i + 4)])) : ρ (i + 4) = 1 ↔ wv4 (Q4 ρ i) = 0 := by
  have t' : (ρ (i + 4) = 0 \/ ρ (i + 4) = 1) /\ (ρ (i + 4) = 1 ↔ wv4 (Q4 ρ i) = 0) := Eq.mp (by kernel_rfl) ((h.niz _).1 t)
  exact t'.2
theorem htnF (h : GS X hs) {i : Nat} (t : X 93 (Q4 ρ i)) : okN (Q4 ρ i) /\ wv4 (Q4 ρ i) = bn (hs.take 28) % n224 := (h.htn _).1 t
theorem ninF (h : GS X hs) {i j : Nat} (t : X 94 (Q4 ρ i ++ Q4 ρ j)) : vn (Q4 ρ j) = (OF nN).pw (vn (Q4 ρ i)) nm2 := by
  have t' : okN (Q4 ρ j) /\ vn (Q4 ρ j) = (OF nN).pw (vn (Q4 ρ i)) nm2 := Eq.mp (by kernel_rfl) ((h.nin _).1 t)
  exact t'.2
theorem nmuF (h : GS X hs) {i j k : Nat} (t : X 95 (Q4 ρ i ++ Q4 ρ j ++ Q4 ρ k)) : okN (Q4 ρ k) /\ vn (Q4 ρ k) = vn (Q4 ρ i) * vn (Q4 ρ j) := Eq.mp (by kernel_rfl) ((h.nmu _).1 t)
theorem nbyF (h : GS X hs) {i j : Nat} (t : X 96 (Q4 ρ i ++ B28 ρ j)) : (∀ x ∈ B28 ρ j, byteOK x) /\ bn (B28 ρ j) = wv4 (Q4 ρ i) := Eq.mp (by kernel_rfl) ((h.nby _).1 t)
theorem sbF_congr {f g : Nat -> Int} : ∀ n, (∀ i, i < n -> f i = g i) -> sbF f n = sbF g n
  | 0, _ => rfl
  | n + 1, h => by
    unfold sbF
    rw [sbF_congr n (fun i hi => h i (by omega)), h n (by omega)]
theorem sbFF (h : GS X hs) {i j : Nat} (t : X 84 (B28 ρ i ++ Q12 ρ j)) : okP (Q12 ρ j) /\ pt (Q12 ρ j) = sbF (nth (B28 ρ i)) 28 := by
  have t' : okP (Q12 ρ j) /\ pt (Q12 ρ j) = sbF (nth (B28 ρ i ++ Q12 ρ j)) 28 := Eq.mp (by kernel_rfl) ((h.sb _).1 t)
  exact ⟨t'.1, t'.2.trans (sbF_congr 28 fun k hk => nth_app_l _ _ (by rw [B28_len]; exact hk))⟩
theorem smF (h : GS X hs) {a : List Int} (ha : a.length = 12) {i j : Nat} (oa : okP a) (t : X 76 (a ++ B28 ρ i ++ Q12 ρ j)) : okP (Q12 ρ j) /\ pt (Q12 ρ j) = loopI (tabI (pt a)) (B28 ρ i) true farI := by
  obtain ⟨σ, rfl⟩ := of12 ha
  have t' : okP (Q12 σ 0) -> okP (Q12 ρ j) /\ pt (Q12 ρ j) = loopI (tabI (pt (Q12 σ 0))) (B28 ρ i) true farI := Eq.mp (by kernel_rfl) ((h.sm _).1 t)
  exact t' oa
theorem adF (h : GS X hs) {i j k : Nat} (oa : okP (Q12 ρ i)) (ob : okP (Q12 ρ j)) (t : X 70 (Q12 ρ i ++ Q12 ρ j ++ Q12 ρ k)) : okP (Q12 ρ k) /\ pt (Q12 ρ k) = adI (pt (Q12 ρ i)) (pt (Q12 ρ j)) := addPT h.toFK rfl rfl rfl oa ob t
theorem bxF (h : GS X hs) {i j : Nat} (oa : okP (Q12 ρ i)) (t : X 81 (Q12 ρ i ++ B28 ρ j)) : (pt (Q12 ρ i)).2.2 ≠ 0 /\ (∀ x ∈ B28 ρ j, byteOK x) /\ bn (B28 ρ j) < p224 /\ φ (bn (B28 ρ j)) = (pt (Q12 ρ i)).1 * finv (pt (Q12 ρ i)).2.2 := by
  have t' : okP (Q12 ρ i) -> (pt (Q12 ρ i)).2.2 ≠ 0 /\ (∀ x ∈ B28 ρ j, byteOK x) /\ bn (B28 ρ j) < p224 /\ φ (bn (B28 ρ j)) = (pt (Q12 ρ i)).1 * finv (pt (Q12 ρ i)).2.2 := Eq.mp (by kernel_rfl) ((h.bx _).1 t)
  exact t' oa
theorem bxnF (h : GS X hs) {i : Nat} (oa : okP (Q12 ρ i)) (t : X 80 (Q12 ρ i)) : (pt (Q12 ρ i)).2.2 = 0 := by
  have t' : okP (Q12 ρ i) -> (pt (Q12 ρ i)).2.2 = 0 := Eq.mp (by kernel_rfl) ((h.bxNo _).1 t)
  exact t' oa
theorem sovF (h : GS X hs) {i j : Nat} (t : X 97 (B28 ρ i ++ Q4 ρ j)) : okN (Q4 ρ j) /\ wv4 (Q4 ρ j) = bn (B28 ρ i) % n224 := by
  have t' := (h.sov _).1 t
  have e1 : (B28 ρ i ++ Q4 ρ j).length - 4 = (B28 ρ i).length := by simp [Q4]
  unfold SovP at t'
  rw [e1, List.drop_left, List.take_left] at t'
  exact t'
theorem neqF (h : GS X hs) {i j k : Nat} (t : X 98 (Q4 ρ i ++ Q4 ρ j ++ [ρ k])) : ρ k = 1 ↔ wv4 (Q4 ρ i) = wv4 (Q4 ρ j) := by
  have t' : (ρ k = 0 \/ ρ k = 1) /\ (ρ k = 1 ↔ wv4 (Q4 ρ i) = wv4 (Q4 ρ j)) := Eq.mp (by kernel_rfl) ((h.neq _).1 t)
  exact t'.2
def pvRun (X : Tk) (ρ : Nat -> Int) : Prop :=
  X 77 ((List.range 57).map ρ ++ Q4 ρ 122 ++ Q4 ρ 126) /\ X 90 (B28 ρ 57 ++ Q4 ρ 130) /\ X 92 (Q4 ρ 130 ++ [ρ 134]) /\ ¬ ρ 134 = 1 /\ X 90 (B28 ρ 85 ++ Q4 ρ 135) /\ X 92 (Q4 ρ 135 ++ [ρ 139]) /\ ¬ ρ 139 = 1 /\
  X 93 (Q4 ρ 140) /\ X 94 (Q4 ρ 135 ++ Q4 ρ 144) /\ X 95 (Q4 ρ 140 ++ Q4 ρ 144 ++ Q4 ρ 148) /\ X 96 (Q4 ρ 148 ++ B28 ρ 152) /\ X 84 (B28 ρ 152 ++ Q12 ρ 180) /\ X 95 (Q4 ρ 144 ++ Q4 ρ 130 ++ Q4 ρ 192) /\ X 96 (Q4 ρ 192 ++ B28 ρ 196) /\
  X 76 ((Q4 ρ 122 ++ Q4 ρ 126 ++ oneL) ++ B28 ρ 196 ++ Q12 ρ 224) /\ X 70 (Q12 ρ 180 ++ Q12 ρ 224 ++ Q12 ρ 236)
theorem pv_main (h : GS X hs) (r : pvRun X ρ) : okP (Q12 ρ 236) /\ ∃ g : GN, Rep (pt (Q12 ρ 236)) g /\ wv4 (Q4 ρ 130) = bn (B28 ρ 57) /\ (verF (bn (B28 ρ 1)) (bn (B28 ρ 29)) (B28 ρ 57) (B28 ρ 85) (hs.take 28) = true ↔ xIs g (bn (B28 ρ 57))) := by
  obtain ⟨tq, tr, zr, nr, ts, zs, ns, th, tw, tu, bu, tb, tv, bv, tm, ta⟩ := r
  obtain ⟨hp, oq, eq⟩ := spF h tq
  obtain ⟨_, r1, r2⟩ := sbyF h tr
  obtain ⟨_, s1, s2⟩ := sbyF h ts
  have r0 : bn (B28 ρ 57) ≠ 0 := fun e => nr ((nizF h zr).2 (r1.trans e))
  have s0 : bn (B28 ρ 85) ≠ 0 := fun e => ns ((nizF h zs).2 (s1.trans e))
  obtain ⟨_, h1⟩ := htnF h th
  have w1 := ninF h tw
  obtain ⟨u0, u1⟩ := nmuF h tu
  obtain ⟨v0, v1⟩ := nmuF h tv
  obtain ⟨bu1, bu2⟩ := nbyF h bu
  obtain ⟨bv1, bv2⟩ := nbyF h bv
  obtain ⟨ob, eb⟩ := sbFF h tb
  obtain ⟨om, em⟩ := smF h rfl oq tm
  obtain ⟨oa, ea⟩ := adF h ob om ta
  have hq : onN (some (φ (bn (B28 ρ 1)), φ (bn (B28 ρ 29)))) := by
    have e : isPt ((List.range 57).map ρ) = (ρ 0 = 4 /\ bn (B28 ρ 1) < p224 /\ bn (B28 ρ 29) < p224 /\ onN (some (φ (bn (B28 ρ 1)), φ (bn (B28 ρ 29))))) := by kernel_rfl
    rw [e] at hp
    exact hp.2.2.2
  have W : vn (Q4 ρ 144) = ψ (ipw (bn (B28 ρ 85)) nm2 % n224) := by
    rw [w1, ψ_mod, ψ_ipw]
    unfold vn
    rw [s1]
  have U : bn (B28 ρ 152) = (bn (hs.take 28) % n224) * (ipw (bn (B28 ρ 85)) nm2 % n224) % n224 := by
    rw [bu2]
    refine okN_val u0 ?_
    rw [u1, W, ψ_mul]
    unfold vn
    rw [h1]
  have V : bn (B28 ρ 196) = (bn (B28 ρ 57) * (ipw (bn (B28 ρ 85)) nm2 % n224)) % n224 := by
    rw [bv2]
    refine okN_val v0 ?_
    rw [v1, W, ψ_mul, Fin.mul_comm]
    unfold vn
    rw [r1]
  have g1 := rm_sbF B28_len bu1
  have g2 := rm_sm hq (Q := pt (Q4 ρ 122 ++ Q4 ρ 126 ++ oneL)) (by
    rw [eq]
    show Rep _ (mulN 1 _)
    rw [mulN_one hq]
    exact rep_lift cvN.pr (some (φ (bn (B28 ρ 1)), φ (bn (B28 ρ 29))))) bv1
  have g3 := rep_adI (mulN_on GG_on _) (mulN_on hq _) g1 g2
  rw [U, V, <- em, <- eb, <- ea] at g3
  refine ⟨oa, _, g3, r1, ?_⟩
  rw [verF_spec hq]
  exact ⟨fun q => q.2, fun q => ⟨⟨⟨r0, r2⟩, ⟨s0, s2⟩⟩, q⟩⟩
end
def pvL0 : Look := ⟨[], [], [.test (.cmp .eql (.var 0) (.const 0)) true], []⟩
def pvL1 : Look := ⟨[], [], [.test (.cmp .eql (.var 0) (.const 0)) false, .ext 77 (vars 0 57 ++ vars 114 8), .ext 77 (vars 0 57 ++ vars 122 8), .ext 90 (vars 57 28 ++ vars 130 4), .ext 92 (vars 130 5), .test (.cmp .eql (.var 134) (.const 1)) true], []⟩
def pvL2 : Look := ⟨[], [], [.test (.cmp .eql (.var 0) (.const 0)) false, .ext 77 (vars 0 57 ++ vars 114 8), .ext 77 (vars 0 57 ++ vars 122 8), .ext 90 (vars 57 28 ++ vars 130 4), .ext 92 (vars 130 5), .test (.cmp .eql (.var 134) (.const 1)) false, .ext 90 (vars 85 28 ++ vars 135 4), .ext 92 (vars 135 5), .test (.cmp .eql (.var 139) (.const 1)) true], []⟩
def pvL3 : Look := ⟨[], [], [.test (.cmp .eql (.var 0) (.const 0)) false, .ext 77 (vars 0 57 ++ vars 114 8), .ext 77 (vars 0 57 ++ vars 122 8), .ext 90 (vars 57 28 ++ vars 130 4), .ext 92 (vars 130 5), .test (.cmp .eql (.var 134) (.const 1)) false, .ext 90 (vars 85 28 ++ vars 135 4), .ext 92 (vars 135 5), .test (.cmp .eql (.var 139) (.const 1)) false, .ext 93 (vars 140 4), .ext 94 (vars 135 4 ++ vars 144 4), .ext 95 (vars 140 12), .ext 96 (vars 148 32), .ext 84 (vars 152 40), .ext 95 (vars 144 4 ++ vars 130 4 ++ vars 192 4), .ext 96 (vars 192 32), .ext 76 (vars 122 8 ++ cs [18446744069414584320, 18446744073709551615, 0, 0] ++ vars 196 40), .ext 70 (vars 180 12 ++ vars 224 24), .ext 81 (vars 236 40), .ext 97 (vars 248 32), .ext 98 (vars 276 4 ++ vars 130 4 ++ vars 280 1), .test (.cmp .neq (.var 280) (.const 1)) true], []⟩
def pvL4 : Look := ⟨[], [], [.test (.cmp .eql (.var 0) (.const 0)) false, .ext 77 (vars 0 57 ++ vars 114 8), .ext 77 (vars 0 57 ++ vars 122 8), .ext 90 (vars 57 28 ++ vars 130 4), .ext 92 (vars 130 5), .test (.cmp .eql (.var 134) (.const 1)) false, .ext 90 (vars 85 28 ++ vars 135 4), .ext 92 (vars 135 5), .test (.cmp .eql (.var 139) (.const 1)) false, .ext 93 (vars 140 4), .ext 94 (vars 135 4 ++ vars 144 4), .ext 95 (vars 140 12), .ext 96 (vars 148 32), .ext 84 (vars 152 40), .ext 95 (vars 144 4 ++ vars 130 4 ++ vars 192 4), .ext 96 (vars 192 32), .ext 76 (vars 122 8 ++ cs [18446744069414584320, 18446744073709551615, 0, 0] ++ vars 196 40), .ext 70 (vars 180 12 ++ vars 224 24), .ext 81 (vars 236 40), .ext 97 (vars 248 32), .ext 98 (vars 276 4 ++ vars 130 4 ++ vars 280 1), .test (.cmp .neq (.var 280) (.const 1)) false], []⟩
def pvL5 : Look := ⟨[], [], [.test (.cmp .eql (.var 0) (.const 0)) false, .ext 77 (vars 0 57 ++ vars 114 8), .ext 77 (vars 0 57 ++ vars 122 8), .ext 90 (vars 57 28 ++ vars 130 4), .ext 92 (vars 130 5), .test (.cmp .eql (.var 134) (.const 1)) false, .ext 90 (vars 85 28 ++ vars 135 4), .ext 92 (vars 135 5), .test (.cmp .eql (.var 139) (.const 1)) false, .ext 93 (vars 140 4), .ext 94 (vars 135 4 ++ vars 144 4), .ext 95 (vars 140 12), .ext 96 (vars 148 32), .ext 84 (vars 152 40), .ext 95 (vars 144 4 ++ vars 130 4 ++ vars 192 4), .ext 96 (vars 192 32), .ext 76 (vars 122 8 ++ cs [18446744069414584320, 18446744073709551615, 0, 0] ++ vars 196 40), .ext 70 (vars 180 12 ++ vars 224 24), .ext 80 (vars 236 12)], []⟩
def pvL6 : Look := ⟨[], [], [.test (.cmp .eql (.var 0) (.const 0)) false, .ext 77 (vars 0 57 ++ vars 114 8), .ext 77 (vars 0 57 ++ vars 122 8), .ext 90 (vars 57 28 ++ vars 130 4), .ext 92 (vars 130 5), .test (.cmp .eql (.var 134) (.const 1)) false, .ext 91 (vars 85 28 ++ vars 135 4)], []⟩
def pvL7 : Look := ⟨[], [], [.test (.cmp .eql (.var 0) (.const 0)) false, .ext 77 (vars 0 57 ++ vars 114 8), .ext 77 (vars 0 57 ++ vars 122 8), .ext 91 (vars 57 28 ++ vars 130 4)], []⟩
def pvL8 : Look := ⟨[], [], [.test (.cmp .eql (.var 0) (.const 0)) false, .ext 77 (vars 0 57 ++ vars 114 8), .ext 78 (vars 0 57)], []⟩
def pvL9 : Look := ⟨[], [], [.test (.cmp .eql (.var 0) (.const 0)) false, .ext 78 (vars 0 57)], []⟩
def pvDs : List (Nat × Look) := [(2, pvL0), (1, pvL1), (1, pvL2), (1, pvL3), (0, pvL4), (1, pvL5), (1, pvL6), (1, pvL7), (1, pvL8), (1, pvL8), (1, pvL8), (2, pvL9), (2, pvL9), (2, pvL9)]
section
variable {X : Tk} {hs : List Int}
theorem isPt113 (ρ : Nat -> Int) : isPt (B113 ρ) = isPt ((List.range 57).map ρ) := by kernel_rfl
theorem pvV113 (ρ : Nat -> Int) : pvV hs (B113 ρ) = verF (bn (B28 ρ 1)) (bn (B28 ρ 29)) (B28 ρ 57) (B28 ρ 85) (hs.take 28) := by kernel_rfl
theorem pvx_of (h : GT X hs) {L : Look} (_ : L.nums = []) (hk : ∀ ρ, Seen X L ρ -> ¬ isPt ((List.range 57).map ρ)) : EndP X pvS 2 L := by
  refine endP_of (s := pvS) _ 101 _ rfl rfl (fun ρ => (List.range 57).map ρ) (fun ρ => by kernel_rfl) fun ρ hs => (h.pvx _).2 (hk ρ hs)
theorem pvn_of (h : GT X hs) {L : Look} (hk : ∀ ρ, Seen X L ρ -> isPt ((List.range 57).map ρ) -> verF (bn (B28 ρ 1)) (bn (B28 ρ 29)) (B28 ρ 57) (B28 ρ 85) (hs.take 28) = false) : EndP X pvS 1 L := by
  refine endP_of (s := pvS) _ 100 _ rfl rfl B113 (fun ρ => by kernel_rfl) fun ρ hS => (h.pvn _).2 ?_
  intro hp
  rw [pvV113]
  rw [isPt113] at hp
  exact hk ρ hS hp
theorem verF_range {qx qy : Int} {rs ss t : List Int} (h : ¬ ((bn rs ≠ 0 /\ bn rs < n224) /\ (bn ss ≠ 0 /\ bn ss < n224))) : verF qx qy rs ss t = false := by
  unfold verF
  rw [if_neg h]
theorem bool_false {b : Bool} (h : ¬ b = true) : b = false := by cases b <;> simp_all
theorem pv_end0 (h : GT X hs) : EndP X pvS 2 pvL0 := pvx_of h rfl fun ρ hS => by
  have t := (test1 hS 0 (n := 0) rfl).2 rfl
  intro hp
  have e : isPt ((List.range 57).map ρ) = (ρ 0 = 4 /\ bn (B28 ρ 1) < p224 /\ bn (B28 ρ 29) < p224 /\ onN (some (φ (bn (B28 ρ 1)), φ (bn (B28 ρ 29))))) := by kernel_rfl
  rw [e] at hp
  exact absurd (hp.1.symm.trans t) (by decide)
theorem pv_end1 (h : GT X hs) : EndP X pvS 1 pvL1 := pvn_of h fun ρ hS _ => by
  have a := sbyF h.toGS (tokAt hS 3 (by kernel_rfl) : X 90 (B28 ρ 57 ++ Q4 ρ 130))
  have b := nizF h.toGS (tokAt hS 4 (by kernel_rfl) : X 92 (Q4 ρ 130 ++ [ρ 134]))
  have t := (test1 hS 5 (n := 1) rfl).2 rfl
  exact verF_range fun q => q.1.1 (a.2.1.symm.trans (b.1 t))
theorem pv_end2 (h : GT X hs) : EndP X pvS 1 pvL2 := pvn_of h fun ρ hS _ => by
  have a := sbyF h.toGS (tokAt hS 6 (by kernel_rfl) : X 90 (B28 ρ 85 ++ Q4 ρ 135))
  have b := nizF h.toGS (tokAt hS 7 (by kernel_rfl) : X 92 (Q4 ρ 135 ++ [ρ 139]))
  have t := (test1 hS 8 (n := 1) rfl).2 rfl
  exact verF_range fun q => q.2.1 (a.2.1.symm.trans (b.1 t))
theorem pv_end6 (h : GT X hs) : EndP X pvS 1 pvL6 := pvn_of h fun ρ hS _ => by
  have a := sbnF h.toGS (tokAt hS 6 (by kernel_rfl) : X 91 (B28 ρ 85 ++ Q4 ρ 135))
  exact verF_range fun q => a q.2.2
theorem pv_end7 (h : GT X hs) : EndP X pvS 1 pvL7 := pvn_of h fun ρ hS _ => by
  have a := sbnF h.toGS (tokAt hS 3 (by kernel_rfl) : X 91 (B28 ρ 57 ++ Q4 ρ 130))
  exact verF_range fun q => a q.1.2
theorem pv_end8 (h : GT X hs) : EndP X pvS 1 pvL8 := pvn_of h fun ρ hS hp => by
  have a : X 78 ((List.range 57).map ρ) := tokAt hS 2 (by kernel_rfl)
  exact absurd hp ((h.spNo _).1 a)
theorem pv_end9 (h : GT X hs) : EndP X pvS 2 pvL9 := pvx_of h rfl fun ρ hS => (h.spNo _).1 (tokAt hS 1 (by kernel_rfl))
theorem pv_run' {L : Look} {ρ : Nat -> Int} (hS : Seen X L ρ) (hk : L.ks.take 18 = pvL5.ks.take 18) : pvRun X ρ := by
  have g : ∀ (i : Nat), i < 18 -> ∀ {tag : Nat} {l : List Int}, (pvL5.ks[i]?).bind (conVal ρ) = some (tag, l) -> X tag l := fun i hi tag l e => by
    refine tokAt hS i ?_
    have : L.ks[i]? = pvL5.ks[i]? := by
      have a := congrArg (·[i]?) hk
      simp only [List.getElem?_take, hi, if_true] at a
      exact a
    rw [this]; exact e
  have tt : ∀ (i : Nat), i < 18 -> L.ks[i]? = pvL5.ks[i]? := fun i hi => by
    have a := congrArg (·[i]?) hk
    simp only [List.getElem?_take, hi, if_true] at a
    exact a
  have n1 : ¬ ρ 134 = 1 := fun q => by
    have := (test1 hS 5 (n := 1) (b := false) ((tt 5 (by decide)).trans rfl)).1 q
    cases this
  have n2 : ¬ ρ 139 = 1 := fun q => by
    have := (test1 hS 8 (n := 1) (b := false) ((tt 8 (by decide)).trans rfl)).1 q
    cases this
  exact ⟨g 2 (by decide) (by kernel_rfl), g 3 (by decide) (by kernel_rfl), g 4 (by decide) (by kernel_rfl), n1, g 6 (by decide) (by kernel_rfl), g 7 (by decide) (by kernel_rfl), n2, g 9 (by decide) (by kernel_rfl), g 10 (by decide) (by kernel_rfl), g 11 (by decide) (by kernel_rfl), g 12 (by decide) (by kernel_rfl), g 13 (by decide) (by kernel_rfl), g 14 (by decide) (by kernel_rfl), g 15 (by decide) (by kernel_rfl), g 16 (by decide) (by kernel_rfl), g 17 (by decide) (by kernel_rfl)⟩
theorem pv_cmp (h : GT X hs) {L : Look} {ρ : Nat -> Int} (hS : Seen X L ρ) (hk : L.ks.take 21 = pvL4.ks.take 21) : ρ 280 = 1 ↔ verF (bn (B28 ρ 1)) (bn (B28 ρ 29)) (B28 ρ 57) (B28 ρ 85) (hs.take 28) = true := by
  have tt : ∀ (i : Nat), i < 21 -> L.ks[i]? = pvL4.ks[i]? := fun i hi => by
    have a := congrArg (·[i]?) hk
    simp only [List.getElem?_take, hi, if_true] at a
    exact a
  have hk' : L.ks.take 18 = pvL5.ks.take 18 := by
    have a := congrArg (List.take 18) hk
    rw [List.take_take, List.take_take] at a
    exact a
  have r : pvRun X ρ := pv_run' hS hk'
  obtain ⟨oa, g, hg, er, e⟩ := pv_main h.toGS r
  have t1 : X 81 (Q12 ρ 236 ++ B28 ρ 248) := tokAt hS 18 (by rw [tt 18 (by decide)]; kernel_rfl)
  have t2 : X 97 (B28 ρ 248 ++ Q4 ρ 276) := tokAt hS 19 (by rw [tt 19 (by decide)]; kernel_rfl)
  have t3 : X 98 (Q4 ρ 276 ++ Q4 ρ 130 ++ [ρ 280]) := tokAt hS 20 (by rw [tt 20 (by decide)]; kernel_rfl)
  obtain ⟨x1, x2, x3, x4⟩ := bxF h.toGS oa t1
  obtain ⟨_, y2⟩ := sovF h.toGS t2
  rw [neqF h.toGS t3, y2, er, e]
  exact (x_is hg x1 ⟨bn_nonneg x2, x3⟩ x4 _).symm
theorem pv_end5 (h : GT X hs) : EndP X pvS 1 pvL5 := pvn_of h fun ρ hS _ => by
  obtain ⟨oa, g, hg, er, e⟩ := pv_main h.toGS (pv_run' hS rfl)
  have t1 : X 80 (Q12 ρ 236) := tokAt hS 18 (by kernel_rfl)
  exact bool_false fun q => x_far hg (bxnF h.toGS oa t1) _ (e.1 q)
theorem pv_end3 (h : GT X hs) : EndP X pvS 1 pvL3 := pvn_of h fun ρ hS _ => by
  have t := testAt hS 21 (e := .cmp .neq (.var 280) (.const 1)) (b := true) rfl
  have t' : ¬ ρ 280 = 1 := by simpa [BE.eval, intCmp, IE.eval] using t
  exact bool_false fun q => t' ((pv_cmp h hS rfl).2 q)
theorem pv_end4 (h : GT X hs) : EndP X pvS 0 pvL4 := by
  refine endP_of (s := pvS) _ 99 _ rfl rfl B113 (fun ρ => by kernel_rfl) fun ρ hS => (h.pvy _).2 ?_
  have t := testAt hS 21 (e := .cmp .neq (.var 280) (.const 1)) (b := false) rfl
  have t' : ρ 280 = 1 := by simpa [BE.eval, intCmp, IE.eval] using t
  unfold PvyP
  rw [isPt113, pvV113]
  exact ⟨(spF h.toGS (tokAt hS 2 (by kernel_rfl) : X 77 ((List.range 57).map ρ ++ Q4 ρ 122 ++ Q4 ρ 126))).1, (pv_cmp h hS rfl).1 t'⟩
theorem pv_ends (h : GT X hs) : ∀ d ∈ pvDs, EndP X pvS d.1 d.2 := fun d hd => by
  simp only [pvDs, List.mem_cons, List.not_mem_nil, or_false] at hd
  rcases hd with rfl | rfl | rfl | rfl | rfl | rfl | rfl | rfl | rfl | rfl | rfl | rfl | rfl | rfl
  · exact pv_end0 h
  · exact pv_end1 h
  · exact pv_end2 h
  · exact pv_end3 h
  · exact pv_end4 h
  · exact pv_end5 h
  · exact pv_end6 h
  · exact pv_end7 h
  · exact pv_end8 h
  · exact pv_end8 h
  · exact pv_end8 h
  · exact pv_end9 h
  · exact pv_end9 h
  · exact pv_end9 h
end
open Go.Proofs.YtmogojlijkddpaaGreat (Q12 of12)
def lawS : Sm := { pvS with outs := [{ nbd := [(0, 1)], val := .bexp (.cmp .eql (.var 114) (.const 1)), writes := [], news := [], post := [(102, [.var 114])] }] }
structure FG (X : Tk) (hs : List Int) : Prop extends FU X hs, GT X hs where
  law : ∀ l, X 102 l ↔ nth l 0 = 1
theorem on_onN {x y : Int} (h : fT y y = fR x) : onN (some (φ x, φ y)) := by
  have e := congrArg φ h
  unfold fR at e
  rw [φ_P, φ_M, φ_T, φ_T, φ_T, φ_T, φ_three, φ_bB] at e
  show φ y * φ y = cu βB (φ x)
  unfold cu
  rw [e]
  grind
def lawL0 : Look := ⟨[.const 1], [], [.test (.cmp .neq (.var 0) (.const 4)) true], []⟩
def lawL1 : Look := ⟨[.const 1], [], [.test (.cmp .neq (.var 0) (.const 4)) false, .ext 49 (vars 1 28 ++ vars 114 7), .ext 49 (vars 29 28 ++ vars 121 7), .ext 27 (vars 114 7 ++ cs [1, 0, 0, 4294967295, 4294967295, 4294967295, 4294967295] ++ vars 128 1), .test (.cmp .eql (.var 128) (.const 1)) true, .ext 27 (vars 121 7 ++ cs [1, 0, 0, 4294967295, 4294967295, 4294967295, 4294967295] ++ vars 129 1), .test (.cmp .eql (.var 129) (.const 1)) true, .ext 41 (vars 114 14 ++ vars 130 1), .test (.not (.cmp .eql (.var 130) (.const 1))) false, .ext 99 (vars 0 113), .ext 55 (vars 114 14 ++ vars 57 56 ++ vars 131 1), .test (.cmp .eql (.var 131) (.const 1)) true], []⟩
def lawL2 : Look := ⟨[.const 0], [], [.test (.cmp .neq (.var 0) (.const 4)) false, .ext 49 (vars 1 28 ++ vars 114 7), .ext 49 (vars 29 28 ++ vars 121 7), .ext 27 (vars 114 7 ++ cs [1, 0, 0, 4294967295, 4294967295, 4294967295, 4294967295] ++ vars 128 1), .test (.cmp .eql (.var 128) (.const 1)) true, .ext 27 (vars 121 7 ++ cs [1, 0, 0, 4294967295, 4294967295, 4294967295, 4294967295] ++ vars 129 1), .test (.cmp .eql (.var 129) (.const 1)) true, .ext 41 (vars 114 14 ++ vars 130 1), .test (.not (.cmp .eql (.var 130) (.const 1))) false, .ext 99 (vars 0 113), .ext 55 (vars 114 14 ++ vars 57 56 ++ vars 131 1), .test (.cmp .eql (.var 131) (.const 1)) false], []⟩
def lawL3 : Look := ⟨[.const 1], [], [.test (.cmp .neq (.var 0) (.const 4)) false, .ext 49 (vars 1 28 ++ vars 114 7), .ext 49 (vars 29 28 ++ vars 121 7), .ext 27 (vars 114 7 ++ cs [1, 0, 0, 4294967295, 4294967295, 4294967295, 4294967295] ++ vars 128 1), .test (.cmp .eql (.var 128) (.const 1)) true, .ext 27 (vars 121 7 ++ cs [1, 0, 0, 4294967295, 4294967295, 4294967295, 4294967295] ++ vars 129 1), .test (.cmp .eql (.var 129) (.const 1)) true, .ext 41 (vars 114 14 ++ vars 130 1), .test (.not (.cmp .eql (.var 130) (.const 1))) false, .ext 100 (vars 0 113), .ext 55 (vars 114 14 ++ vars 57 56 ++ vars 131 1), .test (.not (.cmp .eql (.var 131) (.const 1))) true], []⟩
def lawL4 : Look := ⟨[.const 0], [], [.test (.cmp .neq (.var 0) (.const 4)) false, .ext 49 (vars 1 28 ++ vars 114 7), .ext 49 (vars 29 28 ++ vars 121 7), .ext 27 (vars 114 7 ++ cs [1, 0, 0, 4294967295, 4294967295, 4294967295, 4294967295] ++ vars 128 1), .test (.cmp .eql (.var 128) (.const 1)) true, .ext 27 (vars 121 7 ++ cs [1, 0, 0, 4294967295, 4294967295, 4294967295, 4294967295] ++ vars 129 1), .test (.cmp .eql (.var 129) (.const 1)) true, .ext 41 (vars 114 14 ++ vars 130 1), .test (.not (.cmp .eql (.var 130) (.const 1))) false, .ext 100 (vars 0 113), .ext 55 (vars 114 14 ++ vars 57 56 ++ vars 131 1), .test (.not (.cmp .eql (.var 131) (.const 1))) false], []⟩
def lawL5 : Look := ⟨[.const 0], [], [.test (.cmp .neq (.var 0) (.const 4)) false, .ext 49 (vars 1 28 ++ vars 114 7), .ext 49 (vars 29 28 ++ vars 121 7), .ext 27 (vars 114 7 ++ cs [1, 0, 0, 4294967295, 4294967295, 4294967295, 4294967295] ++ vars 128 1), .test (.cmp .eql (.var 128) (.const 1)) true, .ext 27 (vars 121 7 ++ cs [1, 0, 0, 4294967295, 4294967295, 4294967295, 4294967295] ++ vars 129 1), .test (.cmp .eql (.var 129) (.const 1)) true, .ext 41 (vars 114 14 ++ vars 130 1), .test (.not (.cmp .eql (.var 130) (.const 1))) false, .ext 101 (vars 0 57)], []⟩
def lawL6 : Look := ⟨[.const 1], [], [.test (.cmp .neq (.var 0) (.const 4)) false, .ext 49 (vars 1 28 ++ vars 114 7), .ext 49 (vars 29 28 ++ vars 121 7), .ext 27 (vars 114 7 ++ cs [1, 0, 0, 4294967295, 4294967295, 4294967295, 4294967295] ++ vars 128 1), .test (.cmp .eql (.var 128) (.const 1)) true, .ext 27 (vars 121 7 ++ cs [1, 0, 0, 4294967295, 4294967295, 4294967295, 4294967295] ++ vars 129 1), .test (.cmp .eql (.var 129) (.const 1)) true, .ext 41 (vars 114 14 ++ vars 130 1), .test (.not (.cmp .eql (.var 130) (.const 1))) true], []⟩
def lawL7 : Look := ⟨[.const 1], [], [.test (.cmp .neq (.var 0) (.const 4)) false, .ext 49 (vars 1 28 ++ vars 114 7), .ext 49 (vars 29 28 ++ vars 121 7), .ext 27 (vars 114 7 ++ cs [1, 0, 0, 4294967295, 4294967295, 4294967295, 4294967295] ++ vars 128 1), .test (.cmp .eql (.var 128) (.const 1)) true, .ext 27 (vars 121 7 ++ cs [1, 0, 0, 4294967295, 4294967295, 4294967295, 4294967295] ++ vars 129 1), .test (.cmp .eql (.var 129) (.const 1)) false], []⟩
def lawL8 : Look := ⟨[.const 1], [], [.test (.cmp .neq (.var 0) (.const 4)) false, .ext 49 (vars 1 28 ++ vars 114 7), .ext 49 (vars 29 28 ++ vars 121 7), .ext 27 (vars 114 7 ++ cs [1, 0, 0, 4294967295, 4294967295, 4294967295, 4294967295] ++ vars 128 1), .test (.cmp .eql (.var 128) (.const 1)) false], []⟩
def lawDs : List (Nat × Look) := [(0, lawL0), (0, lawL1), (0, lawL2), (0, lawL3), (0, lawL4), (0, lawL5), (0, lawL6), (0, lawL7), (0, lawL8), (0, lawL1), (0, lawL2), (0, lawL3), (0, lawL4), (0, lawL5), (0, lawL6), (0, lawL7), (0, lawL8), (0, lawL1), (0, lawL2), (0, lawL3), (0, lawL4), (0, lawL5), (0, lawL6), (0, lawL7), (0, lawL8)]
section
variable {X : Tk} {hs : List Int}
theorem law_yes (h : FG X hs) {L : Look} (hn : L.nums = [.const 1]) : EndP X lawS 0 L := by
  refine endP_of (s := lawS) _ 102 _ rfl rfl (fun _ => [1]) (fun ρ => ?_) fun ρ hS => (h.law _).2 rfl
  show [_] = [_]
  simp only [IE.eval, numsOf, hn]
  rfl
theorem law_no (_ : FG X hs) {L : Look} (hk : ∀ ρ, Seen X L ρ -> False) : EndP X lawS 0 L := fun _ _ ρ hS => (hk ρ hS).elim
theorem law_read (h : FG X hs) {L : Look} {ρ : Nat -> Int} (hS : Seen X L ρ) (hk : L.ks.take 9 = lawL5.ks.take 9) : isPt ((List.range 57).map ρ) /\ wv (W7 ρ 114) 0 = bn (B28 ρ 1) /\ wv (W7 ρ 121) 0 = bn (B28 ρ 29) := by
  have tt : ∀ (i : Nat), i < 9 -> L.ks[i]? = lawL5.ks[i]? := fun i hi => by
    have a := congrArg (·[i]?) hk
    simp only [List.getElem?_take, hi, if_true] at a
    exact a
  have t0 := testAt hS 0 (e := .cmp .neq (.var 0) (.const 4)) (b := false) ((tt 0 (by decide)).trans rfl)
  have v0 : ρ 0 = 4 := by simpa [BE.eval, intCmp, IE.eval] using t0
  have t1 : X 49 (B28 ρ 1 ++ W7 ρ 114) := tokAt hS 1 (by rw [tt 1 (by decide)]; kernel_rfl)
  have t2 : X 49 (B28 ρ 29 ++ W7 ρ 121) := tokAt hS 2 (by rw [tt 2 (by decide)]; kernel_rfl)
  have t3 : X 27 (W7 ρ 114 ++ [1, 0, 0, 4294967295, 4294967295, 4294967295, 4294967295] ++ [ρ 128]) := tokAt hS 3 (by rw [tt 3 (by decide)]; kernel_rfl)
  have t5 : X 27 (W7 ρ 121 ++ [1, 0, 0, 4294967295, 4294967295, 4294967295, 4294967295] ++ [ρ 129]) := tokAt hS 5 (by rw [tt 5 (by decide)]; kernel_rfl)
  have t7 : X 41 (W7 ρ 114 ++ W7 ρ 121 ++ [ρ 130]) := tokAt hS 7 (by rw [tt 7 (by decide)]; kernel_rfl)
  have b4 := (test1 hS 4 (n := 1) (b := true) ((tt 4 (by decide)).trans rfl)).2 rfl
  have b6 := (test1 hS 6 (n := 1) (b := true) ((tt 6 (by decide)).trans rfl)).2 rfl
  have b8' := testAt hS 8 (e := .not (.cmp .eql (.var 130) (.const 1))) (b := false) ((tt 8 (by decide)).trans rfl)
  have b8 : ρ 130 = 1 := by simpa [BE.eval, intCmp, IE.eval] using b8'
  obtain ⟨_, n1⟩ := num_of h.toFV B28_len rfl t1
  obtain ⟨_, n2⟩ := num_of h.toFV B28_len rfl t2
  have p1 := (below_of h.toFX rfl rfl rfl t3).2.1 b4
  have p2 := (below_of h.toFX rfl rfl rfl t5).2.1 b6
  have e := (on_of h.toFW rfl rfl rfl t7).2.1 b8
  have hp : wv [1, 0, 0, 4294967295, 4294967295, 4294967295, 4294967295] 0 = p224 := by decide
  rw [hp, n1] at p1
  rw [hp, n2] at p2
  rw [n1, n2] at e
  refine ⟨?_, n1, n2⟩
  refine Eq.mp (by kernel_rfl : (ρ 0 = 4 /\ bn (B28 ρ 1) < p224 /\ bn (B28 ρ 29) < p224 /\ onN (some (φ (bn (B28 ρ 1)), φ (bn (B28 ρ 29))))) = _) ⟨v0, p1, p2, on_onN e⟩
theorem law_ver (h : FG X hs) {ρ : Nat -> Int} (e1 : wv (W7 ρ 114) 0 = bn (B28 ρ 1)) (e2 : wv (W7 ρ 121) 0 = bn (B28 ρ 29)) (t : X 55 (W7 ρ 114 ++ W7 ρ 121 ++ B28 ρ 57 ++ B28 ρ 85 ++ [ρ 131])) : ρ 131 = 1 ↔ pvV hs (B113 ρ) = true := by
  have t' : (ρ 131 = 0 \/ ρ 131 = 1) /\ (ρ 131 = 1 ↔ verF (wv (W7 ρ 114) 0) (wv (W7 ρ 121) 0) (B28 ρ 57) (B28 ρ 85) (hs.take 28) = true) := Eq.mp (by kernel_rfl) ((h.ver _).1 t)
  rw [pvV113, t'.2, e1, e2]
theorem law_end0 (h : FG X hs) : EndP X lawS 0 lawL0 := law_yes h rfl
theorem law_end1 (h : FG X hs) : EndP X lawS 0 lawL1 := law_yes h rfl
theorem law_end2 (h : FG X hs) : EndP X lawS 0 lawL2 := law_no h fun ρ hS => by
  obtain ⟨hp, e1, e2⟩ := law_read h hS rfl
  have a := (h.pvy _).1 (tokAt hS 9 (by kernel_rfl) : X 99 (B113 ρ))
  have v := law_ver h e1 e2 (tokAt hS 10 (by kernel_rfl))
  have t := test1 hS 11 (n := 1) (b := false) rfl
  exact absurd (t.1 (v.2 a.2)) (by decide)
theorem law_end3 (h : FG X hs) : EndP X lawS 0 lawL3 := law_yes h rfl
theorem law_end4 (h : FG X hs) : EndP X lawS 0 lawL4 := law_no h fun ρ hS => by
  obtain ⟨hp, e1, e2⟩ := law_read h hS rfl
  have a := (h.pvn _).1 (tokAt hS 9 (by kernel_rfl) : X 100 (B113 ρ))
  have v := law_ver h e1 e2 (tokAt hS 10 (by kernel_rfl))
  have t := testAt hS 11 (e := .not (.cmp .eql (.var 131) (.const 1))) (b := false) rfl
  have t' : ρ 131 = 1 := by simpa [BE.eval, intCmp, IE.eval] using t
  rw [<- isPt113] at hp
  have := a hp
  rw [v.1 t'] at this
  cases this
theorem law_end5 (h : FG X hs) : EndP X lawS 0 lawL5 := law_no h fun ρ hS => by
  obtain ⟨hp, _, _⟩ := law_read h hS rfl
  exact (h.pvx _).1 (tokAt hS 9 (by kernel_rfl) : X 101 ((List.range 57).map ρ)) hp
theorem law_end6 (h : FG X hs) : EndP X lawS 0 lawL6 := law_yes h rfl
theorem law_end7 (h : FG X hs) : EndP X lawS 0 lawL7 := law_yes h rfl
theorem law_end8 (h : FG X hs) : EndP X lawS 0 lawL8 := law_yes h rfl
theorem law_ends (h : FG X hs) : ∀ d ∈ lawDs, EndP X lawS d.1 d.2 := fun d hd => by
  simp only [lawDs, List.mem_cons, List.not_mem_nil, or_false] at hd
  rcases hd with rfl | rfl | rfl | rfl | rfl | rfl | rfl | rfl | rfl | rfl | rfl | rfl | rfl | rfl | rfl | rfl | rfl | rfl | rfl | rfl | rfl | rfl | rfl | rfl | rfl
  · exact law_end0 h
  · exact law_end1 h
  · exact law_end2 h
  · exact law_end3 h
  · exact law_end4 h
  · exact law_end5 h
  · exact law_end6 h
  · exact law_end7 h
  · exact law_end8 h
  · exact law_end1 h
  · exact law_end2 h
  · exact law_end3 h
  · exact law_end4 h
  · exact law_end5 h
  · exact law_end6 h
  · exact law_end7 h
  · exact law_end8 h
  · exact law_end1 h
  · exact law_end2 h
  · exact law_end3 h
  · exact law_end4 h
  · exact law_end5 h
  · exact law_end6 h
  · exact law_end7 h
  · exact law_end8 h
end
inductive Ar where
  | nil
  | view (n : Nat)
  | len (lo hi : Int)
def arAll : Nat -> Nat -> List Ar -> List SV × List (Int × Int) × List Blk
  | _, _, [] => ([], [], [])
  | b, i, .nil :: l => let r := arAll b i l; (.nils :: r.1, r.2.1, r.2.2)
  | b, i, .view n :: l => let r := arAll (b + 1) (i + n) l; (.view b 0 n :: r.1, List.replicate n (0, 255) ++ r.2.1, ⟨5, bytV i n, false⟩ :: r.2.2)
  | b, i, .len lo hi :: l => let r := arAll (b + 1) (i + 1) l; (.lslice true b 0 (.var i) 0 :: r.1, (lo, hi) :: r.2.1, ⟨5, [], false⟩ :: r.2.2)
def caseS (l : List Ar) : Sm :=
  let r := arAll 0 0 l
  { bd := r.2.1, args := r.1, mem := r.2.2, al := List.range r.2.2.length, outs := [{ nbd := [], val := .bool true, writes := [], news := [], post := [] }] }
section
variable {P : Program} {X : Tk}
theorem start_rep {s : Sm} {c : Ctx} {W : World} (wf : ∀ k ∈ s.mem, okbL s.nv s.mem.length k.cells = true) (hal : ∀ b, b < s.mem.length -> b ∈ s.al) (hb : ∀ (b : Nat) k, s.mem[b]? = some k -> blkRep c b k W)
    (hbd : ∀ (i : Nat) r, s.bd[i]? = some r -> r.1 <= c.ρ i /\ c.ρ i <= r.2) (hl : ∀ x ∈ s.lens, x.1 < s.mem.length /\ x.2 < s.nv /\ partAt s.start.mem x.1 /\ lenRep X c x W) : MRep X ⟨W, s.mem.length⟩ c s.start W := by
  have hget : ∀ b k, s.start.mem.get (path b) = some k -> s.mem[b]? = some k := fun b k hb => by
    simp only [Sm.start, listTr_get, Nat.zero_le, Nat.zero_add, true_and, Nat.sub_zero, Tr.get_nil] at hb
    split at hb
    · exact hb
    · cases hb
  refine ⟨fun b k h => ?_, fun b b' k k' h h' e => ?_, fun b h => by simp [Sm.start] at h, fun b h1 h2 => ?_, fun _ _ _ => rfl, Nat.le_refl _, fun k hk => by simp [Sm.start] at hk, fun i r hr => ?_, rfl, rfl, rfl, fun b s' p h => by simp [Sm.start, Tr.get_nil] at h, fun x hx => hl x hx⟩
  · have hk := hget b k h
    exact ⟨(List.getElem?_eq_some_iff.1 hk).1, okL_of (wf k (List.mem_of_getElem? hk)), hb b k hk⟩
  · exact .inr ⟨hal b (List.getElem?_eq_some_iff.1 (hget b k h)).1, hal b' (List.getElem?_eq_some_iff.1 (hget b' k' h')).1⟩
  · exact absurd (show b < s.mem.length from h2) (by have : s.mem.length <= b := h1; omega)
  · simp only [Sm.start, listTr_get, Nat.zero_le, Nat.zero_add, true_and, Nat.sub_zero, Tr.get_nil] at hr
    split at hr
    · rename_i hi
      exact ⟨hi, hbd i r hr⟩
    · cases hr
structure Same (W W' : World) : Prop where
  size : W.heap.size <= W'.heap.size
  heap : ∀ r, r < W.heap.size -> W'.heap[r]? = W.heap[r]?
  os : W'.os = W.os
  out : W'.output = W.output
  tape : W'.tape = W.tape
theorem call_start {f : FuncId} {s : Sm} (h : SpecOK P X f s.spec) {v : SV} {S1 : St} (hs : s.spec s.args s.start = some [(v, S1)]) (hwr : S1.wr = []) (wargs : okbL s.nv s.mem.length s.args = true) {c : Ctx} {W : World}
    (hM : MRep X ⟨W, s.mem.length⟩ c s.start W) {R : Value -> Prop} (hR : ∀ c' w', MRep X ⟨W, s.mem.length⟩ c' S1 w' -> R (v.den c')) :
    Calls P f (denL c s.args).toArray W fun e W' => (∃ u, e = .returned u /\ R u) /\ Same W W' := by
  refine h s.args s.start _ hs ⟨W, s.mem.length⟩ c W hM (okL_of wargs) _ fun u S' hm c' w' hled => ?_
  simp only [List.mem_singleton, Prod.mk.injEq] at hm
  obtain ⟨rfl, rfl⟩ := hm
  have hr := hled.rep
  exact ⟨⟨_, rfl, hR c' w' hr⟩, hr.size, fun r hlt => hr.frame r hlt fun b hb => (by rw [hwr] at hb; cases hb), hr.os, hr.out, hr.tape⟩
def Agree (W : World) (c : Ctx) : Nat -> Nat -> List Ar -> List Value -> Prop
  | _, _, [], [] => True
  | b, i, .nil :: l, v :: vs => v = .slice none 0 0 /\ Agree W c b i l vs
  | b, i, .view n :: l, v :: vs => (v = .slice (some ⟨c.β b, c.o b, none⟩) n (c.κ b) /\ n <= c.κ b /\ ∃ arr ty fr, W.heap[c.β b]? = some (.cells arr ty fr) /\ ∀ j, j < n -> arr[c.o b + j]? = some (.int .u8 (c.ρ (i + j))) /\ 0 <= c.ρ (i + j) /\ c.ρ (i + j) <= 255) /\ Agree W c (b + 1) (i + n) l vs
  | b, i, .len lo hi :: l, v :: vs => (v = .slice (some ⟨c.β b, c.o b, none⟩) (c.ρ i).toNat (c.κ b) /\ lo <= c.ρ i /\ c.ρ i <= hi /\ ∃ arr ty fr, W.heap[c.β b]? = some (.cells arr ty fr)) /\ Agree W c (b + 1) (i + 1) l vs
  | _, _, _, _ => False
theorem agree_rep {W : World} {c : Ctx} : ∀ {l : List Ar} {vs : List Value} {b i : Nat}, Agree W c b i l vs ->
    denL c (arAll b i l).1 = vs /\ (∀ (j : Nat) k, (arAll b i l).2.2[j]? = some k -> blkRep c (b + j) k W) /\ (∀ (j : Nat) r, (arAll b i l).2.1[j]? = some r -> r.1 <= c.ρ (i + j) /\ c.ρ (i + j) <= r.2)
  | [], [], b, i, _ => ⟨rfl, fun j k h => by simp [arAll] at h, fun j r h => by simp [arAll] at h⟩
  | .nil :: l, v :: vs, b, i, h => by
    obtain ⟨rfl, h⟩ := h
    obtain ⟨a1, a2, a3⟩ := agree_rep h
    exact ⟨by simp only [arAll, denL, a1]; rfl, a2, a3⟩
  | .view n :: l, v :: vs, b, i, h => by
    obtain ⟨⟨rfl, hn, arr, ty, fr, hh, hc⟩, h⟩ := h
    obtain ⟨a1, a2, a3⟩ := agree_rep h
    refine ⟨by simp only [arAll, denL, a1, SV.den, Nat.add_zero, Nat.sub_zero], fun j k hk => ?_, fun j r hr => ?_⟩
    · cases j with
      | zero =>
        simp only [arAll, List.getElem?_cons_zero, Option.some.injEq] at hk
        subst hk
        rw [blkRep_part rfl]
        refine ⟨by simpa [bytV] using hn, arr, ty, fr, hh, fun j u hu => ?_⟩
        obtain ⟨hj, rfl⟩ := bytV_get hu
        exact (hc j hj).1
      | succ j =>
        simp only [arAll, List.getElem?_cons_succ] at hk
        have := a2 j k hk
        rwa [show b + 1 + j = b + (j + 1) by omega] at this
    · simp only [arAll] at hr
      rw [List.getElem?_append] at hr
      split at hr
      · rename_i hj
        rw [List.length_replicate] at hj
        rw [List.getElem?_replicate, if_pos hj] at hr
        cases hr
        exact (hc j hj).2
      · rename_i hj
        rw [List.length_replicate] at hj hr
        have := a3 _ r hr
        rwa [show i + n + (j - n) = i + j by omega] at this
  | .len lo hi :: l, v :: vs, b, i, h => by
    obtain ⟨⟨rfl, h1, h2, arr, ty, fr, hh⟩, h⟩ := h
    obtain ⟨a1, a2, a3⟩ := agree_rep h
    refine ⟨by simp [arAll, denL, a1, SV.den, IE.eval], fun j k hk => ?_, fun j r hr => ?_⟩
    · cases j with
      | zero =>
        simp only [arAll, List.getElem?_cons_zero, Option.some.injEq] at hk
        subst hk
        rw [blkRep_part rfl]
        exact ⟨Nat.zero_le _, arr, ty, fr, hh, fun j u hu => by simp at hu⟩
      | succ j =>
        simp only [arAll, List.getElem?_cons_succ] at hk
        have := a2 j k hk
        rwa [show b + 1 + j = b + (j + 1) by omega] at this
    · cases j with
      | zero =>
        simp only [arAll, List.getElem?_cons_zero, Option.some.injEq] at hr
        subst hr
        exact ⟨h1, h2⟩
      | succ j =>
        simp only [arAll, List.getElem?_cons_succ] at hr
        have := a3 j r hr
        rwa [show i + 1 + j = i + (j + 1) by omega] at this
def ArgV (W : World) (v : Value) (zs : List Int) : Prop :=
  ∃ blk off cap arr ty fr, v = .slice (some ⟨blk, off, none⟩) zs.length cap /\ zs.length <= cap /\ W.heap[blk]? = some (.cells arr ty fr) /\ ∀ (i : Nat) x, zs[i]? = some x -> arr[off + i]? = some (.int .u8 x) /\ 0 <= x /\ x <= 255
def Fits (W : World) : Ar -> Value -> Prop
  | .nil, v => v = .slice none 0 0
  | .view n, v => ∃ zs, ArgV W v zs /\ zs.length = n
  | .len lo hi, v => ∃ zs, ArgV W v zs /\ lo <= (zs.length : Int) /\ (zs.length : Int) <= hi
def FitsAll (W : World) : List Ar -> List Value -> Prop
  | [], [] => True
  | a :: l, v :: vs => Fits W a v /\ FitsAll W l vs
  | _, _ => False
def CtxLe (b i : Nat) (c c' : Ctx) : Prop := (∀ j, j < i -> c'.ρ j = c.ρ j) /\ ∀ x, x < b -> c'.β x = c.β x /\ c'.o x = c.o x /\ c'.κ x = c.κ x
theorem fits_agree {W : World} : ∀ {l : List Ar} {vs : List Value} {b i : Nat} (c : Ctx), FitsAll W l vs -> ∃ c', CtxLe b i c c' /\ Agree W c' b i l vs
  | [], [], b, i, c, _ => ⟨c, ⟨fun _ _ => rfl, fun _ _ => ⟨rfl, rfl, rfl⟩⟩, trivial⟩
  | .nil :: l, v :: vs, b, i, c, h => by
    obtain ⟨c', h1, h2⟩ := fits_agree (b := b) (i := i) c h.2
    exact ⟨c', h1, h.1, h2⟩
  | .view n :: l, v :: vs, b, i, c, h => by
    obtain ⟨⟨zs, ⟨blk, off, cap, arr, ty, fr, rfl, hcap, hh, hc⟩, rfl⟩, h⟩ := h
    obtain ⟨c', h1, h2⟩ := fits_agree (b := b + 1) (i := i + zs.length) ⟨fun j => if j < i then c.ρ j else (zs[j - i]?).getD 0, fun x => if x = b then blk else c.β x, fun x => if x = b then off else c.o x, fun x => if x = b then cap else c.κ x⟩ h
    obtain ⟨e1, e2, e3⟩ := h1.2 b (by omega)
    simp only [if_true] at e1 e2 e3
    refine ⟨c', ⟨fun j hj => by rw [h1.1 j (by omega)]; simp [hj], fun x hx => by
      have := h1.2 x (by omega)
      simp only [if_neg (show x ≠ b by omega)] at this
      exact this⟩, ⟨by rw [e1, e2, e3], by rw [e3]; exact hcap, arr, ty, fr, by rw [e1]; exact hh, fun j hj => ?_⟩, h2⟩
    have e : c'.ρ (i + j) = zs[j] := by
      rw [h1.1 (i + j) (by omega)]
      simp only
      rw [if_neg (by omega), show i + j - i = j by omega, List.getElem?_eq_getElem hj]; rfl
    rw [e, e2]
    exact hc j _ (List.getElem?_eq_getElem hj)
  | .len lo hi :: l, v :: vs, b, i, c, h => by
    obtain ⟨⟨zs, ⟨blk, off, cap, arr, ty, fr, rfl, hcap, hh, hc⟩, hlo, hhi⟩, h⟩ := h
    obtain ⟨c', h1, h2⟩ := fits_agree (b := b + 1) (i := i + 1) ⟨fun j => if j < i then c.ρ j else (zs.length : Int), fun x => if x = b then blk else c.β x, fun x => if x = b then off else c.o x, fun x => if x = b then cap else c.κ x⟩ h
    obtain ⟨e1, e2, e3⟩ := h1.2 b (by omega)
    simp only [if_true] at e1 e2 e3
    have e : c'.ρ i = (zs.length : Int) := by
      rw [h1.1 i (by omega)]
      simp
    refine ⟨c', ⟨fun j hj => by rw [h1.1 j (by omega)]; simp [hj], fun x hx => by
      have := h1.2 x (by omega)
      simp only [if_neg (show x ≠ b by omega)] at this
      exact this⟩, ⟨by rw [e1, e2, e3, e]; simp, by rw [e]; exact hlo, by rw [e]; exact hhi, arr, ty, fr, by rw [e1]; exact hh⟩, h2⟩
theorem case_call {f : FuncId} {l : List Ar} (h : SpecOK P X f (caseS l).spec) {S1 : St} (hs : (caseS l).spec (caseS l).args (caseS l).start = some [(.bool true, S1)]) (hwr : S1.wr = []) (hwf : (caseS l).wf = true) {W : World} {vs : List Value} (hf : FitsAll W l vs) :
    Calls P f vs.toArray W fun e W' => e = .returned (.bool true) /\ Same W W' := by
  obtain ⟨wargs, wmem, _⟩ := Sm.wf_spec hwf
  obtain ⟨c, _, ha⟩ := fits_agree (b := 0) (i := 0) ⟨fun _ => 0, fun _ => 0, fun _ => 0, fun _ => 0⟩ hf
  obtain ⟨a1, a2, a3⟩ := agree_rep ha
  have hM : MRep X ⟨W, (caseS l).mem.length⟩ c (caseS l).start W := start_rep wmem (fun b hb => List.mem_range.2 hb) (fun b k hk => by have := a2 b k hk; rwa [Nat.zero_add] at this) (fun i r hr => by have := a3 i r hr; rwa [Nat.zero_add] at this) (fun x hx => by cases hx)
  have hw : okbL (caseS l).nv (caseS l).mem.length (caseS l).args = true := by
    simp only [Sm.wf, okbLF_eq, Bool.and_eq_true] at hwf
    exact hwf.1.1
  have := call_start h hs hwr hw hM (R := fun u => u = .bool true) fun c' w' _ => rfl
  have e : denL c (caseS l).args = vs := a1
  rw [e] at this
  refine Calls.mono this fun e W' hq => ?_
  obtain ⟨⟨u, rfl, rfl⟩, hq⟩ := hq
  exact ⟨rfl, hq⟩
end
def noLk0 : Look := ⟨[], [], [], []⟩
def zz : Int := 2147483647
def bigL : Int := 9223372036854775807
def okA : List Ar := [.nil, .len 0 zz]
def bigA : Ar := .len (zz + 1) bigL
def anyA : List Ar := [.nil, .len 0 bigL]
def cases1 : List (List Ar × Nat) := anyA.flatMap fun b => anyA.flatMap fun c => anyA.map fun d => ([bigA, b, c, d], 1)
def cases2 : List (List Ar × Nat) := okA.flatMap fun a => anyA.flatMap fun c => anyA.map fun d => ([a, bigA, c, d], 1)
def cases3 : List (List Ar × Nat) := okA.flatMap fun a => okA.flatMap fun b => anyA.map fun d => ([a, b, bigA, d], 1)
def cases4 : List (List Ar × Nat) := okA.flatMap fun a => okA.flatMap fun b => okA.map fun c => ([a, b, c, bigA], 1)
def cases5 : List (List Ar × Nat) := okA.flatMap fun b => okA.flatMap fun c => okA.flatMap fun d => [([.nil, b, c, d], 1), ([.len 0 0, b, c, d], 1), ([.view 1, b, c, d], 2), ([.len 2 56, b, c, d], 1), ([.len 58 zz, b, c, d], 1)]
def cases6 : List (List Ar × Nat) := okA.flatMap fun c => okA.flatMap fun d => [([.view 57, .nil, c, d], 13), ([.view 57, .len 0 0, c, d], 13), ([.view 57, .len 201 zz, c, d], 13)]
def cases7 : List (List Ar × Nat) := okA.flatMap fun d => [([.view 57, .len 1 200, .nil, d], 13), ([.view 57, .len 1 200, .len 0 27, d], 13), ([.view 57, .len 1 200, .len 29 zz, d], 13)]
def cases8 : List (List Ar × Nat) := [([.view 57, .len 1 200, .view 28, .nil], 13), ([.view 57, .len 1 200, .view 28, .len 0 27], 13), ([.view 57, .len 1 200, .view 28, .len 29 zz], 13)]
end Go.Vm
namespace Go.Proofs.YtmogojlijkddpaaGreat
open Go.Vm
variable {X : Tk}
def specW (f : FuncId) : Option (Fs) := match f with | 6 => some pvS.spec | 7 => some verS.spec | f => specT f
def EW : Env := mkEnv Tryz.prog tyTree fnTree ext0 specW
def caseB (x : List Ar × Nat) : Bool := chkFn (execCall EW 3000 3 (caseS x.1).args (caseS x.1).start) (caseS x.1) (List.replicate x.2 (0, noLk0)) && (match (caseS x.1).spec (caseS x.1).args (caseS x.1).start with | some [(.bool true, S)] => S.wr.isEmpty | _ => false)
end Go.Proofs.YtmogojlijkddpaaGreat
end
