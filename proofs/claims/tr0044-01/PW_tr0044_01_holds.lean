import PyProof.Rows.All
import Wide.All
import OpenK.AllK
import Wide.FinOn
import Lean
import PySem.Challenge.RW_tr0044_01
set_option Elab.async false
-- part Hd
section
open PySem PySem.W PyProof.Rows
namespace Mine
set_option maxRecDepth 100000
set_option maxHeartbeats 8000000
theorem keep_head {P : Prop} (_hw : True) (hc : P) : P := hc
section
local macro_rules | `(tactic| w_witness2) => `(tactic| trivial)
local macro_rules | `(tactic| o_head ($f:ident $k $a $e)) => `(tactic| refine keep_head ?hw ?hc)
open_top hd for PySem.Challenge.rw_tr0044_01.row
end
def asK : List Addr := [2, 3, 15, 17, 18, 20, 21, 22, 24, 25, 27, 28, 29, 31, 32, 34, 35, 36, 39, 44, 45, 46, 48, 49, 51, 52, 53, 55, 56, 58, 59, 60, 61, 63, 64, 66, 67, 68, 69, 71, 72, 74, 75, 76, 78, 79, 81, 82, 83, 85, 86, 88, 89, 90, 91, 93, 94, 96, 97, 98, 100, 101, 103, 104, 105, 106, 108, 109, 111, 112, 113, 114, 115, 116, 117, 120, 123, 125, 126, 128, 129, 130, 132, 133, 135, 136, 137, 139, 140, 142, 143, 144, 146, 147, 149, 150, 151, 153, 154, 156, 157, 158, 160, 161, 163, 164, 165, 167, 168, 170, 171, 172, 174, 175, 177, 178, 179, 182, 183, 184, 186, 187, 189, 190, 191, 193, 194, 196, 197, 198, 200, 201, 203, 204, 205, 208, 209]
theorem asK_eq : ∀ P, asK = (Mine.hd.heap_1 P).map (·.1) := fun _ => by kernel_rfl
end Mine
end
-- part Base0
section
open PySem PySem.W PyProof.Rows
namespace Mine

def Ctr (d : Nat) (w : World) (f : Addr) (pre : Prop) (vs : List Value) (R : Tok → Value) : Prop :=
  ∀ (p : Program) (loose : List Str) (mean : ExcName → Option Value) (mg mb : Str → Option Value) (dp un : Nat) (gd : Option (List Code)) (cn : Str) (cs : Scope) (a : Addr) (ccd : Value) (cl : List (Str × Addr)) (outer : List Env) (A₀ : Around) (base h₀ : Heap) (L : Addr) (m : Str → Option Value) (news : List (Addr × Obj)) (s : Shared) (Q E : Value → Shared → Prop),
    Below A₀ base outer h₀ → Fr h₀ L s.heap m → (Mine.hd.heap_1 w.params).In h₀ → News h₀ L s.heap news → Top p loose mean mg mb h₀ → cs.kind = .function →
    pre → dp + d < recursionLimit → un + 8 * d < cLine → CbRet h₀ L m news s Q R →
      wpAny (model PySem.Challenge.pw_tr0044_01 w) (ktrTop dp un gd cn cs L a ccd cl outer) (call (.ref f) vs) Q E s

theorem Ctr.use {d : Nat} {w : World} {f : Addr} {pre : Prop} {vs : List Value} {R : Tok → Value} (C : Ctr d w f pre vs R) {p : Program} {loose : List Str} {mean : ExcName → Option Value} {mg mb : Str → Option Value} {dp un : Nat} {gd : Option (List Code)} {cn : Str} {cs : Scope} {a : Addr} {ccd : Value} {cl : List (Str × Addr)} {outer : List Env} {A₀ : Around} {base h₀ : Heap} {L : Addr} {m : Str → Option Value} {news : List (Addr × Obj)} {s : Shared} {Q E : Value → Shared → Prop}
    (B : Below A₀ base outer h₀) (F : Fr h₀ L s.heap m) (X : (Mine.hd.heap_1 w.params).In h₀) (N : News h₀ L s.heap news) (T : Top p loose mean mg mb h₀) (hk : cs.kind = .function)
    (hp : pre) (hd : dp + d < recursionLimit) (hu : un + 8 * d < cLine) (ret : ∀ (t : Tok) (h' : Heap) (tk' : Nat), Fr h₀ L h' m → News h₀ L h' news → Q (R t) { s with heap := h', toks := tk' }) :
    wpAny (model PySem.Challenge.pw_tr0044_01 w) (ktrTop dp un gd cn cs L a ccd cl outer) (call (.ref f) vs) Q E s :=
  C p loose mean mg mb dp un gd cn cs a ccd cl outer A₀ base h₀ L m news s Q E B F X N T hk hp hd hu ret

def bitsN (n : Nat) : Nat := if n = 0 then 0 else n.log2 + 1
def restF : Nat → Nat → Nat → Nat
  | 0, n, _ => n
  | f + 1, n, q => if bitsN q ≤ bitsN n then restF f (n ^^^ (q <<< (bitsN n - bitsN q))) q else n
def rest (n q : Nat) : Nat := restF (bitsN n) n q
def quotF : Nat → Nat → Nat → Nat → Nat
  | 0, o, _, _ => o
  | f + 1, o, n, q => if bitsN q ≤ bitsN n then quotF f (o ^^^ (1 <<< (bitsN n - bitsN q))) (n ^^^ (q <<< (bitsN n - bitsN q))) q else o
def quot (n q : Nat) : Nat := quotF (bitsN n) 0 n q
def timesUp (a b : Nat) : Nat → Nat
  | 0 => 0
  | k + 1 => if b / 2 ^ k % 2 = 1 then timesUp a b k ^^^ (a <<< k) else timesUp a b k
def times (a b : Nat) : Nat := timesUp a b (bitsN b)

def sharedF : Nat → Nat → Nat → Nat
  | 0, a, _ => a
  | f + 1, a, b => if b = 0 then a else sharedF f b (rest a b)
def shared (a b : Nat) : Nat := sharedF (bitsN b) a b
def sharedI (a b : Int) : Int := shared a.toNat b.toNat
/-- the steps after which x is 1: from rest, steps -/
def walkF : Nat → Nat → Nat → Nat → Nat
  | 0, _, _, s => s
  | f + 1, p, r, s => if r = 1 then s else walkF f p (rest (2 * r) p) (s + 1)
def ord (p : Nat) : Nat := walkF 256 p (rest 2 p) 1
def ordI (p : Int) : Int := ord p.toNat
def xpowN (p : Nat) : Nat → Nat
  | 0 => rest 1 p
  | k + 1 => rest (2 * xpowN p k) p
def xpow (p s : Int) : Int := xpowN p.toNat s.toNat
def primesN : List Nat := [3, 7, 11, 13, 19, 25, 31, 37, 41, 47, 55, 59, 61, 67, 73, 87, 91, 97, 103, 109, 115, 117, 131, 137, 143, 145, 157, 167, 171, 185, 191, 193, 203, 211, 213, 229, 239, 241, 247, 253, 283, 285, 299, 301, 313, 319, 333, 351, 355, 357, 361, 369, 375, 379, 391, 395, 397, 415, 419, 425, 433, 445, 451, 463, 471, 477, 487, 499, 501, 505]
def isPrimeI (p : Int) : Bool := primesN.contains p.toNat && decide (0 < p)
def dblN (o r : Nat) : Nat := if 256 ≤ 2 * o then (2 * o % 256) ^^^ (r - 256) else 2 * o
def powUp (c r : Nat) : Nat → Nat
  | 0 => 1
  | k + 1 => if c / 2 ^ (bitsN c - 1 - k) % 2 = 1 then dblN (rest (times (powUp c r k) (powUp c r k)) r) r else rest (times (powUp c r k) (powUp c r k)) r
def powN (c r : Nat) : Nat := powUp c r (bitsN c)
def leftN (c r b : Nat) : Nat := rest (times (powN c r ^^^ 1) b) r
def dblI (o r : Int) : Int := dblN o.toNat r.toNat
def powUI (c r : Int) (k : Nat) : Int := powUp c.toNat r.toNat k
def powI (c r : Int) : Int := powN c.toNat r.toNat
def leftI (c r b : Int) : Int := leftN c.toNat r.toNat b.toNat
def restI (n q : Int) : Int := rest n.toNat q.toNat
def quotAI (o n q : Int) : Int := quotF (bitsN n.toNat) o.toNat n.toNat q.toNat
def quotI (n q : Int) : Int := quot n.toNat q.toNat
def timesUI (a b : Int) (k : Nat) : Int := timesUp a.toNat b.toNat k
def timesI (a b : Int) : Int := times a.toNat b.toNat

theorem intBits_cast (n : Nat) : Builtin.Int.intBits (n : Int) = bitsN n := by
  unfold Builtin.Int.intBits bitsN
  by_cases h : n = 0
  · subst h; rfl
  · rw [if_neg h]
    have : ((n : Int) == 0) = false := by simp; omega
    rw [this]; simp
end Mine
end
-- part Poly
section
open PySem PySem.W
set_option maxRecDepth 100000
namespace Mine
theorem bits_lt (n : Nat) : n < 2 ^ bitsN n := by
  unfold bitsN
  split
  · subst_vars; decide
  · exact Nat.lt_log2_self
theorem bits_ge {n : Nat} (h : 0 < n) : 2 ^ (bitsN n - 1) ≤ n := by
  unfold bitsN
  rw [if_neg (by omega), Nat.add_sub_cancel]
  exact Nat.log2_self_le (by omega)
theorem bits_le2 {n k : Nat} (h : n < 2 ^ k) : bitsN n ≤ k := by
  unfold bitsN
  split
  · omega
  · rename_i hn
    have := (Nat.log2_lt hn).mpr h
    omega
theorem bits_pos2 {n : Nat} (h : 0 < n) : 0 < bitsN n := by
  unfold bitsN
  rw [if_neg (by omega)]; omega
theorem bits_zero {n : Nat} (h : bitsN n = 0) : n = 0 := by
  rcases Nat.eq_zero_or_pos n with h0 | h0
  · exact h0
  · have := bits_pos2 h0; omega
theorem bits_of {n k : Nat} (h1 : 2 ^ k ≤ n) (h2 : n < 2 ^ (k + 1)) : bitsN n = k + 1 := by
  have a := bits_le2 h2
  have b := bits_lt n
  rcases Nat.lt_or_ge (bitsN n) (k + 1) with h | h
  · have := Nat.pow_le_pow_right (show 0 < 2 by decide) (show bitsN n ≤ k by omega)
    omega
  · omega
theorem bits_xor_lt {x y : Nat} (h : bitsN y < bitsN x) : bitsN (x ^^^ y) = bitsN x := by
  have hx : 0 < x := by
    rcases Nat.eq_zero_or_pos x with h0 | h0
    · subst h0; exact absurd h (Nat.not_lt_zero _)
    · exact h0
  obtain ⟨k, hk⟩ : ∃ k, bitsN x = k + 1 := ⟨bitsN x - 1, by omega⟩
  have hy : y < 2 ^ k := Nat.lt_of_lt_of_le (bits_lt y) (Nat.pow_le_pow_right (by decide) (by omega))
  have hx1 := bits_lt x
  have hx2 := bits_ge hx
  rw [hk] at hx1 hx2 ⊢
  rw [Nat.add_sub_cancel] at hx2
  refine bits_of ?_ ?_
  · refine Nat.le_of_not_lt fun hlt => ?_
    have : (x ^^^ y) ^^^ y < 2 ^ k := Nat.xor_lt_two_pow hlt hy
    rw [Nat.xor_assoc, Nat.xor_self, Nat.xor_zero] at this
    omega
  · exact Nat.xor_lt_two_pow hx1 (Nat.lt_of_lt_of_le hy (Nat.pow_le_pow_right (by decide) (by omega)))
theorem bits_shl {q k : Nat} (h : 0 < q) : bitsN (q <<< k) = bitsN q + k := by
  have h1 := bits_lt q
  have h2 := bits_ge h
  have h3 := bits_pos2 h
  obtain ⟨m, hm⟩ : ∃ m, bitsN q = m + 1 := ⟨bitsN q - 1, by omega⟩
  rw [hm] at h1 h2 ⊢
  rw [Nat.add_sub_cancel] at h2
  rw [Nat.shiftLeft_eq, show m + 1 + k = (m + k) + 1 by omega]
  refine bits_of ?_ ?_
  · rw [Nat.pow_add]; exact Nat.mul_le_mul_right _ h2
  · rw [show m + k + 1 = m + 1 + k by omega, Nat.pow_add]
    exact Nat.mul_lt_mul_of_pos_right h1 (Nat.pow_pos (by decide))
theorem bits_xor_same {x y : Nat} (hx : 0 < x) (h : bitsN x = bitsN y) : bitsN (x ^^^ y) < bitsN x := by
  have hp := bits_pos2 hx
  have hy : 0 < y := by
    rcases Nat.eq_zero_or_pos y with h0 | h0
    · subst h0; rw [h] at hp; exact absurd hp (Nat.lt_irrefl _)
    · exact h0
  obtain ⟨k, hk⟩ : ∃ k, bitsN x = k + 1 := ⟨bitsN x - 1, by omega⟩
  have a1 := bits_lt x
  have a2 := bits_ge hx
  have b1 := bits_lt y
  have b2 := bits_ge hy
  rw [← h] at b1 b2
  rw [hk] at a1 a2 b1 b2 ⊢
  rw [Nat.add_sub_cancel] at a2 b2
  refine Nat.lt_succ_of_le (bits_le2 ?_)
  refine Nat.lt_pow_two_of_testBit _ fun i hi => ?_
  rw [Nat.testBit_xor]
  rcases Nat.eq_or_lt_of_le hi with e | e
  · subst e
    rw [Nat.testBit_of_two_pow_le_and_two_pow_add_one_gt a2 a1, Nat.testBit_of_two_pow_le_and_two_pow_add_one_gt b2 b1]; rfl
  · have c1 : x < 2 ^ i := Nat.lt_of_lt_of_le a1 (Nat.pow_le_pow_right (by decide) e)
    have c2 : y < 2 ^ i := Nat.lt_of_lt_of_le b1 (Nat.pow_le_pow_right (by decide) e)
    rw [Nat.testBit_lt_two_pow c1, Nat.testBit_lt_two_pow c2]; rfl
theorem bits_step {n q : Nat} (hq : 0 < q) (h : bitsN q ≤ bitsN n) : bitsN (n ^^^ (q <<< (bitsN n - bitsN q))) < bitsN n := by
  have hp := bits_pos2 hq
  have hn : 0 < n := by
    rcases Nat.eq_zero_or_pos n with h0 | h0
    · subst h0; have : bitsN 0 = 0 := rfl; omega
    · exact h0
  exact bits_xor_same hn (by rw [bits_shl hq]; omega)
theorem restF_more {q : Nat} (hq : 0 < q) : ∀ f n, bitsN n ≤ f → restF (f + 1) n q = restF f n q
  | 0, n, h => by
    have := bits_zero (Nat.le_zero.mp h)
    subst this
    have hp := bits_pos2 hq
    rw [restF, restF, if_neg (by show ¬ bitsN q ≤ 0; omega)]
  | f + 1, n, h => by
    by_cases hb : bitsN q ≤ bitsN n
    · have := bits_step hq hb
      rw [restF, if_pos hb, restF_more hq f _ (by omega), restF, if_pos hb]
    · rw [restF, if_neg hb, restF, if_neg hb]
theorem restF_enough {q : Nat} (hq : 0 < q) (n : Nat) : ∀ d, restF (bitsN n + d) n q = rest n q
  | 0 => rfl
  | d + 1 => by rw [← Nat.add_assoc, restF_more hq _ _ (by omega)]; exact restF_enough hq n d
theorem restF_ge {q f n : Nat} (hq : 0 < q) (h : bitsN n ≤ f) : restF f n q = rest n q := by
  obtain ⟨d, rfl⟩ : ∃ d, f = bitsN n + d := ⟨f - bitsN n, by omega⟩
  exact restF_enough hq n d
theorem rest_next {n q : Nat} (hq : 0 < q) (h : bitsN q ≤ bitsN n) : rest n q = rest (n ^^^ (q <<< (bitsN n - bitsN q))) q := by
  have hs := bits_step hq h
  obtain ⟨f, hf⟩ : ∃ f, bitsN n = f + 1 := ⟨bitsN n - 1, by omega⟩
  have e : rest n q = restF (f + 1) n q := by rw [← hf]; rfl
  rw [e, restF, if_pos h]
  exact restF_ge hq (by omega)
theorem rest_stop {n q : Nat} (h : ¬ bitsN q ≤ bitsN n) : rest n q = n := by
  unfold rest
  cases hb : bitsN n with
  | zero => rfl
  | succ f => rw [restF, if_neg h]
theorem rest_bits {q : Nat} (hq : 0 < q) : ∀ f n, bitsN n ≤ f → bitsN (rest n q) < bitsN q
  | 0, n, h => by
    have := bits_zero (Nat.le_zero.mp h)
    subst this
    exact bits_pos2 hq
  | f + 1, n, h => by
    by_cases hb : bitsN q ≤ bitsN n
    · rw [rest_next hq hb]
      have := bits_step hq hb
      exact rest_bits hq f _ (by omega)
    · rw [rest_stop hb]; omega
theorem rest_small {n q : Nat} (hq : 0 < q) : bitsN (rest n q) < bitsN q := rest_bits hq _ n (Nat.le_refl _)
/-- the multiples of q -/
inductive Sp (q : Nat) : Nat → Prop
  | zero : Sp q 0
  | step {n : Nat} (k : Nat) : Sp q n → Sp q (n ^^^ (q <<< k))
theorem Sp.self (q : Nat) : Sp q q := by
  have := Sp.step 0 (Sp.zero (q := q))
  simpa using this
theorem Sp.shiftOne (q k : Nat) : Sp q (q <<< k) := by
  have := Sp.step k (Sp.zero (q := q))
  simpa using this
theorem Sp.xor {q a b : Nat} (ha : Sp q a) (hb : Sp q b) : Sp q (a ^^^ b) := by
  induction hb with
  | zero => simpa using ha
  | step k _ ih => rw [← Nat.xor_assoc]; exact .step k ih
theorem Sp.shift {q a : Nat} (ha : Sp q a) (j : Nat) : Sp q (a <<< j) := by
  induction ha with
  | zero => simpa using Sp.zero
  | step k _ ih =>
    rw [Nat.shiftLeft_xor_distrib, ← Nat.shiftLeft_add]
    exact .step _ ih
theorem Sp.trans {q a b : Nat} (ha : Sp q a) (hb : Sp a b) : Sp q b := by
  induction hb with
  | zero => exact .zero
  | step k _ ih => exact ih.xor (ha.shift k)
theorem rest_sp {q : Nat} (hq : 0 < q) : ∀ f n, bitsN n ≤ f → Sp q (n ^^^ rest n q)
  | 0, n, h => by
    have := bits_zero (Nat.le_zero.mp h)
    subst this
    have e : rest 0 q = 0 := rfl
    rw [e]
    exact .zero
  | f + 1, n, h => by
    by_cases hb : bitsN q ≤ bitsN n
    · have := bits_step hq hb
      have ih := rest_sp hq f (n ^^^ (q <<< (bitsN n - bitsN q))) (by omega)
      rw [rest_next hq hb]
      have h2 := ih.step (bitsN n - bitsN q)
      generalize q <<< (bitsN n - bitsN q) = S at h2 ⊢
      generalize rest (n ^^^ S) q = R at h2 ⊢
      rw [Nat.xor_assoc n, Nat.xor_comm S, ← Nat.xor_assoc, Nat.xor_assoc (n ^^^ R), Nat.xor_self, Nat.xor_zero] at h2
      exact h2
    · rw [rest_stop hb, Nat.xor_self]; exact .zero
theorem rest_diff {q : Nat} (hq : 0 < q) (n : Nat) : Sp q (n ^^^ rest n q) := rest_sp hq _ n (Nat.le_refl _)
end Mine
end
-- part Poly2
section
open PySem PySem.W
set_option maxRecDepth 100000
namespace Mine
theorem tu_succ (a b k : Nat) : timesUp a b (k + 1) = if b.testBit k then timesUp a b k ^^^ (a <<< k) else timesUp a b k := by
  rw [timesUp, Nat.testBit_eq_decide_div_mod_eq]
  by_cases h : b / 2 ^ k % 2 = 1
  · rw [if_pos h, if_pos (by simpa using h)]
  · rw [if_neg h, if_neg (by simpa using h)]
theorem tu_more (a b : Nat) {k : Nat} (h : bitsN b ≤ k) : timesUp a b (k + 1) = timesUp a b k := by
  have hb : b < 2 ^ k := Nat.lt_of_lt_of_le (bits_lt b) (Nat.pow_le_pow_right (by decide) h)
  rw [tu_succ, Nat.testBit_lt_two_pow hb]; rfl
theorem tu_enough (a b : Nat) : ∀ d, timesUp a b (bitsN b + d) = times a b
  | 0 => rfl
  | d + 1 => by rw [← Nat.add_assoc, tu_more _ _ (by omega)]; exact tu_enough a b d
theorem tu_ge (a b : Nat) {k : Nat} (h : bitsN b ≤ k) : timesUp a b k = times a b := by
  obtain ⟨d, rfl⟩ : ∃ d, k = bitsN b + d := ⟨k - bitsN b, by omega⟩
  exact tu_enough a b d
theorem tu_xor (P a b : Nat) : ∀ k, timesUp P (a ^^^ b) k = timesUp P a k ^^^ timesUp P b k
  | 0 => (Nat.xor_self 0).symm
  | k + 1 => by
    rw [tu_succ, tu_succ, tu_succ, tu_xor P a b k, Nat.testBit_xor]
    generalize timesUp P a k = A
    generalize timesUp P b k = B
    generalize P <<< k = S
    cases a.testBit k <;> cases b.testBit k
    · rfl
    · exact Nat.xor_assoc A B S
    · show A ^^^ B ^^^ S = A ^^^ S ^^^ B
      rw [Nat.xor_assoc, Nat.xor_comm B S, ← Nat.xor_assoc]
    · show A ^^^ B = (A ^^^ S) ^^^ (B ^^^ S)
      rw [Nat.xor_comm B S, ← Nat.xor_assoc, Nat.xor_assoc A S S, Nat.xor_self, Nat.xor_zero]
theorem times_xor (P a b : Nat) : times P (a ^^^ b) = times P a ^^^ times P b := by
  have ha := bits_lt a
  have hb := bits_lt b
  obtain ⟨K, h1, h2⟩ : ∃ K, bitsN a ≤ K ∧ bitsN b ≤ K := ⟨bitsN a + bitsN b, by omega, by omega⟩
  have h3 : bitsN (a ^^^ b) ≤ K := bits_le2 (Nat.xor_lt_two_pow (Nat.lt_of_lt_of_le ha (Nat.pow_le_pow_right (by decide) h1)) (Nat.lt_of_lt_of_le hb (Nat.pow_le_pow_right (by decide) h2)))
  rw [← tu_ge P _ h3, ← tu_ge P _ h1, ← tu_ge P _ h2, tu_xor]
theorem tu_rec (a b : Nat) : ∀ k, timesUp a b (k + 1) = (if b.testBit 0 then a else 0) ^^^ (timesUp a (b / 2) k <<< 1)
  | 0 => by
    rw [tu_succ]
    show (if b.testBit 0 then 0 ^^^ (a <<< 0) else 0) = _ ^^^ (0 <<< 1)
    rw [Nat.zero_xor, Nat.shiftLeft_zero, Nat.zero_shiftLeft, Nat.xor_zero]
  | k + 1 => by
    rw [tu_succ, tu_rec a b k, tu_succ a (b / 2), ← Nat.testBit_succ]
    generalize (if b.testBit 0 then a else 0) = c
    cases b.testBit (k + 1)
    · rfl
    · show c ^^^ timesUp a (b / 2) k <<< 1 ^^^ a <<< (k + 1) = c ^^^ (timesUp a (b / 2) k ^^^ a <<< k) <<< 1
      rw [Nat.shiftLeft_xor_distrib, ← Nat.shiftLeft_add, Nat.xor_assoc]
theorem times_rec (a b : Nat) : times a b = (if b.testBit 0 then a else 0) ^^^ (times a (b / 2) <<< 1) := by
  have h1 : bitsN (b / 2) ≤ bitsN b := bits_le2 (Nat.lt_of_le_of_lt (Nat.div_le_self b 2) (bits_lt b))
  rw [← tu_ge a b (Nat.le_succ_of_le (Nat.le_refl (bitsN b))), tu_rec, tu_ge a _ h1]
theorem times_zero (a : Nat) : times a 0 = 0 := rfl
theorem times_one (a : Nat) : times a 1 = a := by
  rw [times_rec]
  show a ^^^ (times a 0 <<< 1) = a
  rw [times_zero, Nat.zero_shiftLeft, Nat.xor_zero]
theorem times_shl1 (a b : Nat) : times a (b <<< 1) = times a b <<< 1 := by
  rw [times_rec]
  have h1 : (b <<< 1).testBit 0 = false := by rw [Nat.testBit_shiftLeft]; simp
  have h2 : (b <<< 1) / 2 = b := by rw [Nat.shiftLeft_eq]; omega
  rw [h1, h2, if_neg (by decide), Nat.zero_xor]
theorem times_shl (a b : Nat) : ∀ k, times a (b <<< k) = times a b <<< k
  | 0 => rfl
  | k + 1 => by rw [Nat.shiftLeft_add, times_shl1, times_shl a b k, ← Nat.shiftLeft_add]
theorem tu_xorL (a c b : Nat) : ∀ k, timesUp (a ^^^ c) b k = timesUp a b k ^^^ timesUp c b k
  | 0 => (Nat.xor_self 0).symm
  | k + 1 => by
    rw [tu_succ, tu_succ, tu_succ, tu_xorL a c b k]
    cases b.testBit k
    · rfl
    · show timesUp a b k ^^^ timesUp c b k ^^^ (a ^^^ c) <<< k = (timesUp a b k ^^^ a <<< k) ^^^ (timesUp c b k ^^^ c <<< k)
      rw [Nat.shiftLeft_xor_distrib]
      generalize timesUp a b k = A
      generalize timesUp c b k = B
      rw [Nat.xor_assoc, Nat.xor_assoc, ← Nat.xor_assoc B, Nat.xor_comm B, Nat.xor_assoc]
theorem tu_shlL (a b : Nat) : ∀ k, timesUp (a <<< 1) b k = timesUp a b k <<< 1
  | 0 => rfl
  | k + 1 => by
    rw [tu_succ, tu_succ, tu_shlL a b k]
    cases b.testBit k
    · rfl
    · show timesUp a b k <<< 1 ^^^ (a <<< 1) <<< k = (timesUp a b k ^^^ a <<< k) <<< 1
      rw [Nat.shiftLeft_xor_distrib, ← Nat.shiftLeft_add, ← Nat.shiftLeft_add, Nat.add_comm]
theorem bin_split (b : Nat) : (if b.testBit 0 then 1 else 0) ^^^ ((b / 2) <<< 1) = b := by
  apply Nat.eq_of_testBit_eq
  intro i
  rw [Nat.testBit_xor, Nat.testBit_shiftLeft]
  cases i with
  | zero => cases b.testBit 0 <;> rfl
  | succ i =>
    have h : (if b.testBit 0 then 1 else 0 : Nat).testBit (i + 1) = false := by
      split
      · exact Nat.testBit_lt_two_pow (by have := Nat.pow_le_pow_right (show 0 < 2 by decide) (show 1 ≤ i + 1 by omega); omega)
      · exact Nat.zero_testBit _
    rw [h, Nat.testBit_succ]
    simp
theorem one_times : ∀ (f b : Nat), bitsN b ≤ f → times 1 b = b
  | 0, b, h => by
    have := bits_zero (Nat.le_zero.mp h)
    subst this; rfl
  | f + 1, b, h => by
    rw [times_rec, one_times f (b / 2) ?_, bin_split]
    refine bits_le2 ?_
    have := Nat.lt_of_lt_of_le (bits_lt b) (Nat.pow_le_pow_right (show 0 < 2 by decide) h)
    rw [Nat.pow_succ] at this
    omega
theorem zero_times (b : Nat) : times 0 b = 0 := by
  have h : ∀ k, timesUp 0 b k = 0 := by
    intro k
    induction k with
    | zero => rfl
    | succ k ih => rw [tu_succ, ih, Nat.zero_shiftLeft]; split <;> rfl
  exact h _
/-- a multiple of q by any polynomial is a multiple of q -/
theorem times_sp (q : Nat) : ∀ (f P : Nat), bitsN P ≤ f → Sp q (times P q)
  | 0, P, h => by
    have := bits_zero (Nat.le_zero.mp h)
    subst this; rw [zero_times]; exact .zero
  | f + 1, P, h => by
    have e : times P q = times (if P.testBit 0 then 1 else 0) q ^^^ (times (P / 2) q <<< 1) := by
      have h1 := tu_xorL (if P.testBit 0 then 1 else 0) ((P / 2) <<< 1) q (bitsN q)
      rw [bin_split, tu_shlL] at h1
      exact h1
    rw [e]
    refine Sp.xor ?_ (Sp.shift (times_sp q f (P / 2) ?_) 1)
    · split
      · rw [one_times _ q (Nat.le_refl _)]; exact Sp.self q
      · rw [zero_times]; exact .zero
    · refine bits_le2 ?_
      have := Nat.lt_of_lt_of_le (bits_lt P) (Nat.pow_le_pow_right (show 0 < 2 by decide) h)
      rw [Nat.pow_succ] at this
      omega
theorem sp_times {q n : Nat} (h : Sp q n) : ∃ c, n = times q c := by
  induction h with
  | zero => exact ⟨0, rfl⟩
  | step k _ ih =>
    obtain ⟨c, rfl⟩ := ih
    exact ⟨c ^^^ (1 <<< k), by rw [times_xor, times_shl, times_one]⟩
theorem times_deg {q : Nat} (hq : 0 < q) : ∀ (f c : Nat), c ≤ f → 0 < c → bitsN q ≤ bitsN (times q c)
  | 0, c, h, h0 => by omega
  | f + 1, c, h, h0 => by
    by_cases h1 : c = 1
    · subst h1; rw [times_one]; exact Nat.le_refl _
    · have ih := times_deg hq f (c / 2) (by omega) (by omega)
      have hT : 0 < times q (c / 2) := by
        rcases Nat.eq_zero_or_pos (times q (c / 2)) with h2 | h2
        · rw [h2] at ih
          have := bits_pos2 hq
          have h3 : bitsN 0 = 0 := rfl
          omega
        · exact h2
      rw [times_rec, Nat.xor_comm]
      have hs := bits_shl (k := 1) hT
      have hl : bitsN (if c.testBit 0 then q else 0) < bitsN (times q (c / 2) <<< 1) := by
        split
        · omega
        · have h3 : bitsN 0 = 0 := rfl
          omega
      rw [bits_xor_lt hl]
      omega
theorem sp_small {q r : Nat} (hq : 0 < q) (h : Sp q r) (hb : bitsN r < bitsN q) : r = 0 := by
  obtain ⟨c, rfl⟩ := sp_times h
  rcases Nat.eq_zero_or_pos c with h0 | h0
  · subst h0; rfl
  · have := times_deg hq c c (Nat.le_refl _) h0
    omega
theorem rest_iff {n q : Nat} (hq : 0 < q) : rest n q = 0 ↔ Sp q n := by
  have hd := rest_diff hq n
  constructor
  · intro h
    rw [h, Nat.xor_zero] at hd
    exact hd
  · intro h
    refine sp_small hq ?_ (rest_small hq)
    have := h.xor hd
    rw [← Nat.xor_assoc, Nat.xor_self, Nat.zero_xor] at this
    exact this
theorem shF_div : ∀ (f a b : Nat), bitsN b ≤ f → Sp (sharedF f a b) a ∧ Sp (sharedF f a b) b
  | 0, a, b, h => by
    have := bits_zero (Nat.le_zero.mp h)
    subst this
    exact ⟨Sp.self a, .zero⟩
  | f + 1, a, b, h => by
    rw [sharedF]
    by_cases hb : b = 0
    · subst hb
      rw [if_pos rfl]
      exact ⟨Sp.self a, .zero⟩
    · rw [if_neg hb]
      have hp : 0 < b := by omega
      have hs := rest_small (n := a) hp
      obtain ⟨i1, i2⟩ := shF_div f b (rest a b) (by omega)
      refine ⟨?_, i1⟩
      have := (i1.trans (rest_diff hp a)).xor i2
      rw [Nat.xor_assoc, Nat.xor_self, Nat.xor_zero] at this
      exact this
theorem sp_closed {Z : Nat → Prop} (h0 : Z 0) (hx : ∀ a b, Z a → Z b → Z (a ^^^ b)) (hs : ∀ a k, Z a → Z (a <<< k)) {q n : Nat} (hq : Z q) (h : Sp q n) : Z n := by
  induction h with
  | zero => exact h0
  | step k _ ih => exact hx _ _ ih (hs _ _ hq)
theorem shF_closed {Z : Nat → Prop} (h0 : Z 0) (hx : ∀ a b, Z a → Z b → Z (a ^^^ b)) (hs : ∀ a k, Z a → Z (a <<< k)) : ∀ (f a b : Nat), Z a → Z b → Z (sharedF f a b)
  | 0, a, b, ha, hb => ha
  | f + 1, a, b, ha, hb => by
    rw [sharedF]
    by_cases h : b = 0
    · rw [if_pos h]; exact ha
    · rw [if_neg h]
      refine shF_closed h0 hx hs f b _ hb ?_
      have := hx _ _ ha (sp_closed h0 hx hs hb (rest_diff (show 0 < b by omega) a))
      rw [← Nat.xor_assoc, Nat.xor_self, Nat.zero_xor] at this
      exact this
theorem sp_zero {n : Nat} (h : Sp 0 n) : n = 0 := by
  induction h with
  | zero => rfl
  | step k _ ih => rw [ih, Nat.zero_shiftLeft]; rfl
theorem shared_div (a b : Nat) : Sp (shared a b) a ∧ Sp (shared a b) b := shF_div _ a b (Nat.le_refl _)
theorem shared_pos2 {a b : Nat} (h : 0 < a) : 0 < shared a b := by
  rcases Nat.eq_zero_or_pos (shared a b) with h0 | h0
  · have := (shared_div a b).1
    rw [h0] at this
    have := sp_zero this
    omega
  · exact h0
theorem sp_deg {q n : Nat} (hq : 0 < q) (hn : 0 < n) (h : Sp q n) : bitsN q ≤ bitsN n := by
  rcases Nat.lt_or_ge (bitsN n) (bitsN q) with hb | hb
  · have := sp_small hq h hb
    omega
  · exact hb
/-- only what the begin shares with the rule matters -/
theorem left_shared {rl : Nat} (hr : 0 < rl) (P b : Nat) : rest (times P b) rl = 0 ↔ rest (times P (shared rl b)) rl = 0 := by
  rw [rest_iff hr, rest_iff hr]
  have h0 : Sp rl (times P 0) := by rw [times_zero]; exact .zero
  have hx : ∀ a b, Sp rl (times P a) → Sp rl (times P b) → Sp rl (times P (a ^^^ b)) := fun a b ha hb => by rw [times_xor]; exact ha.xor hb
  have hs : ∀ a k, Sp rl (times P a) → Sp rl (times P (a <<< k)) := fun a k ha => by rw [times_shl]; exact ha.shift k
  constructor
  · intro h
    exact shF_closed (Z := fun n => Sp rl (times P n)) h0 hx hs _ rl b (times_sp rl _ P (Nat.le_refl _)) h
  · intro h
    exact sp_closed (Z := fun n => Sp rl (times P n)) h0 hx hs h (shared_div rl b).2
end Mine
end
-- part Base
section
open PySem PySem.W PyProof.Rows
namespace Mine
theorem xor_add : ∀ (f a b : Nat), a ≤ f → (a ^^^ b) + 2 * (a &&& b) = a + b
  | 0, a, b, h => by
    have : a = 0 := by omega
    subst this
    rw [Nat.zero_xor, Nat.zero_and]; omega
  | f + 1, a, b, h => by
    rcases Nat.eq_zero_or_pos a with h0 | h0
    · subst h0; rw [Nat.zero_xor, Nat.zero_and]; omega
    · have ih := xor_add f (a / 2) (b / 2) (by omega)
      have e1 : (a ^^^ b) / 2 = a / 2 ^^^ b / 2 := by simpa using Nat.xor_div_two_pow (a := a) (b := b) (n := 1)
      have e2 : (a &&& b) / 2 = a / 2 &&& b / 2 := by simpa using Nat.and_div_two_pow (a := a) (b := b) (n := 1)
      have e3 : (a ^^^ b) % 2 = a % 2 ^^^ b % 2 := by simpa using Nat.xor_mod_two_pow (a := a) (b := b) (n := 1)
      have e4 : (a &&& b) % 2 = a % 2 &&& b % 2 := by simpa using Nat.and_mod_two_pow (a := a) (b := b) (n := 1)
      rcases Nat.mod_two_eq_zero_or_one a with ha | ha <;> rcases Nat.mod_two_eq_zero_or_one b with hb | hb <;> rw [ha, hb] at e3 e4
      · have e3 : (a ^^^ b) % 2 = 0 := e3
        have e4 : (a &&& b) % 2 = 0 := e4
        omega
      · have e3 : (a ^^^ b) % 2 = 1 := e3
        have e4 : (a &&& b) % 2 = 0 := e4
        omega
      · have e3 : (a ^^^ b) % 2 = 1 := e3
        have e4 : (a &&& b) % 2 = 0 := e4
        omega
      · have e3 : (a ^^^ b) % 2 = 0 := e3
        have e4 : (a &&& b) % 2 = 1 := e4
        omega
theorem bitXor_cast (a b : Nat) : Builtin.bitXor (a : Int) (b : Int) = ((a ^^^ b : Nat) : Int) := by
  rw [bitXor_and, bitAnd_pp (Int.natCast_nonneg _) (Int.natCast_nonneg _), Int.toNat_natCast, Int.toNat_natCast]
  have := xor_add a a b (Nat.le_refl _)
  omega
theorem shl_cast (Q k : Nat) : (Q : Int) * 2 ^ k = ((Q <<< k : Nat) : Int) := by
  rw [Nat.shiftLeft_eq]; push_cast; rfl
theorem step_cast (N Q : Nat) : Builtin.bitXor (N : Int) ((Q : Int) * 2 ^ ((Builtin.Int.intBits (N : Int) : Int) - (Builtin.Int.intBits (Q : Int) : Int)).toNat) = ((N ^^^ (Q <<< (bitsN N - bitsN Q)) : Nat) : Int) := by
  rw [intBits_cast, intBits_cast, show ((bitsN N : Int) - (bitsN Q : Int)).toNat = bitsN N - bitsN Q by omega, shl_cast, bitXor_cast]
theorem restI_nat (a b : Nat) : restI (a : Int) (b : Int) = ((rest a b : Nat) : Int) := by simp [restI]
theorem rest_step {n q : Int} (h0 : 0 ≤ n) (hq : 0 < q) (h : (Builtin.Int.intBits q : Int) ≤ Builtin.Int.intBits n) :
   0 ≤ Builtin.bitXor n (q * 2 ^ ((Builtin.Int.intBits n : Int) - (Builtin.Int.intBits q : Int)).toNat) ∧ 
   Builtin.Int.intBits (Builtin.bitXor n (q * 2 ^ ((Builtin.Int.intBits n : Int) - (Builtin.Int.intBits q : Int)).toNat)) < Builtin.Int.intBits n ∧ 
   restI (Builtin.bitXor n (q * 2 ^ ((Builtin.Int.intBits n : Int) - (Builtin.Int.intBits q : Int)).toNat)) q = restI n q := by
  obtain ⟨N, rfl⟩ := Int.eq_ofNat_of_zero_le h0
  obtain ⟨Q, rfl⟩ := Int.eq_ofNat_of_zero_le (Int.le_of_lt hq)
  rw [step_cast]
  rw [intBits_cast, intBits_cast] at h
  have hq' : 0 < Q := by omega
  refine ⟨Int.natCast_nonneg _, ?_, ?_⟩
  · rw [intBits_cast, intBits_cast]; exact bits_step hq' (by omega)
  · rw [restI_nat, restI_nat, ← rest_next hq' (by omega)]
theorem rest_state {n q n₀ : Int} (h0 : 0 ≤ n) (hb : Builtin.Int.intBits n ≤ 100000) (hr : restI n q = restI n₀ q) (hq : 0 < q) (h : (Builtin.Int.intBits q : Int) ≤ Builtin.Int.intBits n) :
   0 ≤ Builtin.bitXor n (q * 2 ^ ((Builtin.Int.intBits n : Int) - (Builtin.Int.intBits q : Int)).toNat) ∧ 
   Builtin.Int.intBits (Builtin.bitXor n (q * 2 ^ ((Builtin.Int.intBits n : Int) - (Builtin.Int.intBits q : Int)).toNat)) ≤ 100000 ∧ 
   restI (Builtin.bitXor n (q * 2 ^ ((Builtin.Int.intBits n : Int) - (Builtin.Int.intBits q : Int)).toNat)) q = restI n₀ q := by
  obtain ⟨a, b, c⟩ := rest_step h0 hq h
  exact ⟨a, by omega, c.trans hr⟩
theorem rest_end {n q : Int} (h0 : 0 ≤ n) (hq : 0 < q) (h : ¬ (Builtin.Int.intBits q : Int) ≤ Builtin.Int.intBits n) : restI n q = n := by
  obtain ⟨N, rfl⟩ := Int.eq_ofNat_of_zero_le h0
  obtain ⟨Q, rfl⟩ := Int.eq_ofNat_of_zero_le (Int.le_of_lt hq)
  rw [intBits_cast, intBits_cast] at h
  rw [restI_nat, rest_stop (by omega)]
theorem quotF_more {q : Nat} (hq : 0 < q) : ∀ f o n, bitsN n ≤ f → quotF (f + 1) o n q = quotF f o n q
  | 0, o, n, h => by
    have := bits_zero (Nat.le_zero.mp h)
    subst this
    have hp := bits_pos2 hq
    rw [quotF, quotF, if_neg (by show ¬ bitsN q ≤ 0; omega)]
  | f + 1, o, n, h => by
    by_cases hb : bitsN q ≤ bitsN n
    · have := bits_step hq hb
      rw [quotF, if_pos hb, quotF_more hq f _ _ (by omega), quotF, if_pos hb]
    · rw [quotF, if_neg hb, quotF, if_neg hb]
theorem quotF_ge {q o n : Nat} (hq : 0 < q) : ∀ d, quotF (bitsN n + d) o n q = quotF (bitsN n) o n q
  | 0 => rfl
  | d + 1 => by rw [← Nat.add_assoc, quotF_more hq _ _ _ (by omega)]; exact quotF_ge hq d
theorem quot_next {o n q : Nat} (hq : 0 < q) (h : bitsN q ≤ bitsN n) : quotF (bitsN (n ^^^ (q <<< (bitsN n - bitsN q)))) (o ^^^ (1 <<< (bitsN n - bitsN q))) (n ^^^ (q <<< (bitsN n - bitsN q))) q = quotF (bitsN n) o n q := by
  have hs := bits_step hq h
  obtain ⟨d, hf⟩ : ∃ d, bitsN n = bitsN (n ^^^ (q <<< (bitsN n - bitsN q))) + d + 1 := ⟨bitsN n - 1 - bitsN (n ^^^ (q <<< (bitsN n - bitsN q))), by omega⟩
  have e : quotF (bitsN n) o n q = quotF (bitsN (n ^^^ (q <<< (bitsN n - bitsN q))) + d + 1) o n q := congrArg (fun f => quotF f o n q) hf
  rw [e, quotF, if_pos h]
  exact (quotF_ge hq d).symm
theorem one_cast (N Q O : Nat) : Builtin.bitXor (O : Int) (1 * 2 ^ ((Builtin.Int.intBits (N : Int) : Int) - (Builtin.Int.intBits (Q : Int) : Int)).toNat) = ((O ^^^ (1 <<< (bitsN N - bitsN Q)) : Nat) : Int) := by
  rw [intBits_cast, intBits_cast, show ((bitsN N : Int) - (bitsN Q : Int)).toNat = bitsN N - bitsN Q by omega, show (1 : Int) = ((1 : Nat) : Int) from rfl, shl_cast, bitXor_cast]
theorem quotAI_nat (o n q : Nat) : quotAI (o : Int) (n : Int) (q : Int) = ((quotF (bitsN n) o n q : Nat) : Int) := by simp [quotAI]
theorem quot_step {o n q : Int} (ho : 0 ≤ o) (h0 : 0 ≤ n) (hq : 0 < q) (h : (Builtin.Int.intBits q : Int) ≤ Builtin.Int.intBits n) :
   0 ≤ Builtin.bitXor o (1 * 2 ^ ((Builtin.Int.intBits n : Int) - (Builtin.Int.intBits q : Int)).toNat) ∧ 
   quotAI (Builtin.bitXor o (1 * 2 ^ ((Builtin.Int.intBits n : Int) - (Builtin.Int.intBits q : Int)).toNat)) (Builtin.bitXor n (q * 2 ^ ((Builtin.Int.intBits n : Int) - (Builtin.Int.intBits q : Int)).toNat)) q = quotAI o n q := by
  obtain ⟨O, rfl⟩ := Int.eq_ofNat_of_zero_le ho
  obtain ⟨N, rfl⟩ := Int.eq_ofNat_of_zero_le h0
  obtain ⟨Q, rfl⟩ := Int.eq_ofNat_of_zero_le (Int.le_of_lt hq)
  rw [step_cast, one_cast]
  rw [intBits_cast, intBits_cast] at h
  refine ⟨Int.natCast_nonneg _, ?_⟩
  rw [quotAI_nat, quotAI_nat, quot_next (by omega) (by omega)]
theorem quot_state {o n q n₀ : Int} (ho : 0 ≤ o) (h0 : 0 ≤ n) (hb : Builtin.Int.intBits n ≤ 100000) (hr : quotAI o n q = quotI n₀ q) (hq : 0 < q) (h : (Builtin.Int.intBits q : Int) ≤ Builtin.Int.intBits n) :
   0 ≤ Builtin.bitXor o (1 * 2 ^ ((Builtin.Int.intBits n : Int) - (Builtin.Int.intBits q : Int)).toNat) ∧ 
   0 ≤ Builtin.bitXor n (q * 2 ^ ((Builtin.Int.intBits n : Int) - (Builtin.Int.intBits q : Int)).toNat) ∧ 
   Builtin.Int.intBits (Builtin.bitXor n (q * 2 ^ ((Builtin.Int.intBits n : Int) - (Builtin.Int.intBits q : Int)).toNat)) ≤ 100000 ∧ 
   quotAI (Builtin.bitXor o (1 * 2 ^ ((Builtin.Int.intBits n : Int) - (Builtin.Int.intBits q : Int)).toNat)) (Builtin.bitXor n (q * 2 ^ ((Builtin.Int.intBits n : Int) - (Builtin.Int.intBits q : Int)).toNat)) q = quotI n₀ q := by
  obtain ⟨a, b, c⟩ := rest_step h0 hq h
  obtain ⟨d, e⟩ := quot_step ho h0 hq h
  exact ⟨d, a, by omega, e.trans hr⟩
theorem quot_start {n q : Int} (h0 : 0 ≤ n) (hb : Builtin.Int.intBits n ≤ 100000) : 0 ≤ (0 : Int) ∧ 0 ≤ n ∧ Builtin.Int.intBits n ≤ 100000 ∧ quotAI 0 n q = quotI n q := ⟨by omega, h0, hb, rfl⟩
theorem quot_end {o n q : Int} (ho : 0 ≤ o) (h0 : 0 ≤ n) (hq : 0 < q) (h : ¬ (Builtin.Int.intBits q : Int) ≤ Builtin.Int.intBits n) : quotAI o n q = o := by
  obtain ⟨O, rfl⟩ := Int.eq_ofNat_of_zero_le ho
  obtain ⟨N, rfl⟩ := Int.eq_ofNat_of_zero_le h0
  obtain ⟨Q, rfl⟩ := Int.eq_ofNat_of_zero_le (Int.le_of_lt hq)
  rw [intBits_cast, intBits_cast] at h
  rw [quotAI_nat]
  cases hb : bitsN N with
  | zero => rfl
  | succ f => rw [quotF, if_neg (by omega)]
theorem bit_at2 (n k : Nat) : Builtin.bitAnd ((n : Int).fdiv (2 ^ k)) 1 = ((n / 2 ^ k % 2 : Nat) : Int) := by
  rw [bitAnd_m1]
  have e : ((n : Int).fdiv (2 ^ k)) = ((n / 2 ^ k : Nat) : Int) := by
    rw [show ((2 : Int) ^ k) = ((2 ^ k : Nat) : Int) by simp, Int.fdiv_eq_ediv_of_nonneg _ (Int.natCast_nonneg _)]
    rfl
  rw [e]; rfl
theorem times_start {x y : Int} : 0 ≤ (0 : Int) ∧ 0 = timesUI x y ([] : List Int).length := ⟨by omega, rfl⟩
theorem times_yes {x y o k : Int} {pre : List Int} (hx : 0 ≤ x) (hy : 0 ≤ y) (h0 : 0 ≤ o) (hr : o = timesUI x y pre.length) (hk : k = 0 + (pre.length : Int)) (ht : Builtin.bitAnd (y.fdiv (2 ^ k.toNat)) 1 = 1) :
  0 ≤ Builtin.bitXor o (x * 2 ^ k.toNat) ∧ Builtin.bitXor o (x * 2 ^ k.toNat) = timesUI x y (pre ++ [k]).length := by
  obtain ⟨X, rfl⟩ := Int.eq_ofNat_of_zero_le hx
  obtain ⟨Y, rfl⟩ := Int.eq_ofNat_of_zero_le hy
  rw [Int.zero_add] at hk
  subst hk
  rw [Int.toNat_natCast] at ht ⊢
  rw [bit_at2] at ht
  subst hr
  unfold timesUI
  rw [Int.toNat_natCast, Int.toNat_natCast, shl_cast, bitXor_cast]
  refine ⟨Int.natCast_nonneg _, ?_⟩
  rw [List.length_append, List.length_singleton, timesUp, if_pos (by omega)]
theorem times_no {x y o k : Int} {pre : List Int} (hx : 0 ≤ x) (hy : 0 ≤ y) (h0 : 0 ≤ o) (hr : o = timesUI x y pre.length) (hk : k = 0 + (pre.length : Int)) (ht : Builtin.bitAnd (y.fdiv (2 ^ k.toNat)) 1 ≠ 1) :
  0 ≤ o ∧ o = timesUI x y (pre ++ [k]).length := by
  obtain ⟨X, rfl⟩ := Int.eq_ofNat_of_zero_le hx
  obtain ⟨Y, rfl⟩ := Int.eq_ofNat_of_zero_le hy
  rw [Int.zero_add] at hk
  subst hk
  rw [Int.toNat_natCast] at ht
  rw [bit_at2] at ht
  refine ⟨h0, hr.trans ?_⟩
  unfold timesUI
  rw [Int.toNat_natCast, Int.toNat_natCast, List.length_append, List.length_singleton, timesUp, if_neg (by omega)]
theorem times_end {x y o : Int} (hy : 0 ≤ y) (h : o = timesUI x y (rangeKs 0 (((Builtin.Int.intBits y : Nat) : Int) - 0).toNat).length) : o = timesI x y := by
  obtain ⟨Y, rfl⟩ := Int.eq_ofNat_of_zero_le hy
  rw [h, rangeKs_length, intBits_cast, Int.sub_zero, Int.toNat_natCast]
  rfl
theorem shared_pre {a b : Int} (ha : 0 ≤ a) (hb : 0 ≤ b) (hba : Builtin.Int.intBits a ≤ 100000) (hn : b ≠ 0) : 0 ≤ a ∧ Builtin.Int.intBits a ≤ 100000 ∧ 0 < b := ⟨ha, hba, by omega⟩
theorem sharedF_more : ∀ f a b, bitsN b ≤ f → sharedF (f + 1) a b = sharedF f a b
  | 0, a, b, h => by
    have := bits_zero (Nat.le_zero.mp h)
    subst this; rfl
  | f + 1, a, b, h => by
    by_cases hb : b = 0
    · rw [sharedF, if_pos hb, sharedF, if_pos hb]
    · have := rest_small (n := a) (show 0 < b by omega)
      rw [sharedF, if_neg hb, sharedF_more f _ _ (by omega), sharedF, if_neg hb]
theorem sharedF_ge {a b : Nat} : ∀ d, sharedF (bitsN b + d) a b = shared a b
  | 0 => rfl
  | d + 1 => by rw [← Nat.add_assoc, sharedF_more _ _ _ (by omega)]; exact sharedF_ge d
theorem shared_next {a b : Nat} (hb : 0 < b) : shared b (rest a b) = shared a b := by
  have hs := rest_small (n := a) hb
  obtain ⟨d, hf⟩ : ∃ d, bitsN b = bitsN (rest a b) + d + 1 := ⟨bitsN b - 1 - bitsN (rest a b), by omega⟩
  have e : shared a b = sharedF (bitsN (rest a b) + d + 1) a b := congrArg (fun f => sharedF f a b) hf
  rw [e, sharedF, if_neg (by omega)]
  exact (sharedF_ge d).symm
theorem sharedI_nat (a b : Nat) : sharedI (a : Int) (b : Int) = ((shared a b : Nat) : Int) := by simp [sharedI]
theorem shared_less {a b : Int} (ha : 0 ≤ a) (hb : 0 ≤ b) (hn : b ≠ 0) : Builtin.Int.intBits (restI a b) < Builtin.Int.intBits b := by
  obtain ⟨A, rfl⟩ := Int.eq_ofNat_of_zero_le ha
  obtain ⟨B, rfl⟩ := Int.eq_ofNat_of_zero_le hb
  rw [restI_nat, intBits_cast, intBits_cast]
  exact rest_small (by omega)
theorem shared_state {a b a₀ b₀ : Int} (ha : 0 ≤ a) (hb : 0 ≤ b) (hba : Builtin.Int.intBits a ≤ 100000) (hbb : Builtin.Int.intBits b ≤ 100000) (hr : sharedI a b = sharedI a₀ b₀) (hn : b ≠ 0) :
  0 ≤ b ∧ 0 ≤ restI a b ∧ Builtin.Int.intBits b ≤ 100000 ∧ Builtin.Int.intBits (restI a b) ≤ 100000 ∧ sharedI b (restI a b) = sharedI a₀ b₀ := by
  have hl := shared_less ha hb hn
  refine ⟨hb, ?_, hbb, by omega, ?_⟩
  · exact Int.natCast_nonneg _
  · rw [← hr]
    obtain ⟨A, rfl⟩ := Int.eq_ofNat_of_zero_le ha
    obtain ⟨B, rfl⟩ := Int.eq_ofNat_of_zero_le hb
    rw [restI_nat, sharedI_nat, sharedI_nat, shared_next (by omega)]
theorem shared_end {a b : Int} (ha : 0 ≤ a) (h : b = 0) : sharedI a b = a := by
  subst h
  obtain ⟨A, rfl⟩ := Int.eq_ofNat_of_zero_le ha
  rw [show (0 : Int) = ((0 : Nat) : Int) from rfl, sharedI_nat]; rfl
theorem tu_lt (a b : Nat) : ∀ k, timesUp a b k < 2 ^ (bitsN a + k)
  | 0 => Nat.pow_pos (by decide)
  | k + 1 => by
    have ih := tu_lt a b k
    have ha := bits_lt a
    have h1 : timesUp a b k < 2 ^ (bitsN a + (k + 1)) := Nat.lt_of_lt_of_le ih (Nat.pow_le_pow_right (by decide) (by omega))
    rw [tu_succ]
    split
    · refine Nat.xor_lt_two_pow h1 ?_
      rw [Nat.shiftLeft_eq]
      have h2 : a * 2 ^ k < 2 ^ bitsN a * 2 ^ k := Nat.mul_lt_mul_of_pos_right ha (Nat.pow_pos (by decide))
      rw [← Nat.pow_add] at h2
      exact Nat.lt_of_lt_of_le h2 (Nat.pow_le_pow_right (by decide) (by omega))
    · exact h1
theorem times_bits (a b : Nat) : bitsN (times a b) ≤ bitsN a + bitsN b := bits_le2 (tu_lt a b _)
theorem lt_bits8 {n : Nat} (h : n < 256) : bitsN n ≤ 8 := bits_le2 (k := 8) h
theorem bits_lt256 {n : Nat} (h : bitsN n ≤ 8) : n < 256 := Nat.lt_of_lt_of_le (bits_lt n) (Nat.pow_le_pow_right (show 0 < 2 by decide) h)
theorem rest_256 {n r : Nat} (hr : 256 ≤ r) (hr2 : r < 512) : rest n r < 256 := by
  have h1 := rest_small (n := n) (show 0 < r by omega)
  have h2 := bits_le2 (n := r) (k := 9) hr2
  exact bits_lt256 (by omega)
theorem pow_pre1 {o : Int} (h0 : 0 ≤ o) (h1 : o < 256) : 0 ≤ o ∧ 0 ≤ o ∧ Builtin.Int.intBits o ≤ 10000 ∧ Builtin.Int.intBits o ≤ 10000 := by
  obtain ⟨O, rfl⟩ := Int.eq_ofNat_of_zero_le h0
  have := lt_bits8 (n := O) (by omega)
  rw [intBits_cast]
  exact ⟨h0, h0, by omega, by omega⟩
theorem timesI_nat (a b : Nat) : timesI (a : Int) (b : Int) = ((times a b : Nat) : Int) := by simp [timesI]
theorem pow_pre2 {o r : Int} (h0 : 0 ≤ o) (h1 : o < 256) (hr : 256 ≤ r) : 0 ≤ timesI o o ∧ Builtin.Int.intBits (timesI o o) ≤ 100000 ∧ 0 < r := by
  obtain ⟨O, rfl⟩ := Int.eq_ofNat_of_zero_le h0
  have h2 := lt_bits8 (n := O) (by omega)
  have h3 := times_bits O O
  rw [timesI_nat, intBits_cast]
  exact ⟨Int.natCast_nonneg _, by omega, by omega⟩
theorem pow_pre3 {o r : Int} (h0 : 0 ≤ o) (h1 : o < 256) (hr : 256 ≤ r) (hr2 : r < 512) : 0 ≤ restI (timesI o o) r ∧ restI (timesI o o) r < 256 ∧ 256 ≤ r ∧ r < 512 := by
  obtain ⟨R, rfl⟩ := Int.eq_ofNat_of_zero_le (show 0 ≤ r by omega)
  obtain ⟨O, rfl⟩ := Int.eq_ofNat_of_zero_le h0
  rw [timesI_nat, restI_nat]
  have := rest_256 (n := times O O) (r := R) (by omega) (by omega)
  exact ⟨Int.natCast_nonneg _, by omega, hr, hr2⟩
theorem pow_start {c r : Int} : 0 ≤ (1 : Int) ∧ (1 : Int) < 256 ∧ 1 = powUI c r ([] : List Int).length := ⟨by omega, by omega, rfl⟩
theorem dbl_256 {o r : Nat} (ho : o < 256) (hr2 : r < 512) : dblN o r < 256 := by
  unfold dblN
  split
  · exact Nat.xor_lt_two_pow (n := 8) (by show _ < 256; omega) (by show _ < 256; omega)
  · omega
theorem dblI_nat (a b : Nat) : dblI (a : Int) (b : Int) = ((dblN a b : Nat) : Int) := by simp [dblI]
theorem pow_bit {c k : Int} {n : Nat} {pre : List Int} {C : Nat} (hc : c = (C : Int)) (hk : k = 0 + (pre.length : Int)) : Builtin.bitAnd (c.fdiv (2 ^ (((Builtin.Int.intBits c : Nat) : Int) - 1 - k).toNat)) 1 = ((C / 2 ^ (bitsN C - 1 - pre.length) % 2 : Nat) : Int) := by
  subst hc hk
  rw [intBits_cast, show (((bitsN C : Nat) : Int) - 1 - (0 + (pre.length : Int))).toNat = bitsN C - 1 - pre.length by omega, bit_at2]
theorem pow_yes {c r o k : Int} {pre : List Int} (hc : 0 ≤ c) (hr : 256 ≤ r) (hr2 : r < 512) (h0 : 0 ≤ o) (h1 : o < 256) (ho : o = powUI c r pre.length) (hk : k = 0 + (pre.length : Int)) (hl : pre.length < (((Builtin.Int.intBits c : Nat) : Int) - 0).toNat)
  (ht : Builtin.bitAnd (c.fdiv (2 ^ (((Builtin.Int.intBits c : Nat) : Int) - 1 - k).toNat)) 1 = 1) :
  0 ≤ dblI (restI (timesI o o) r) r ∧ dblI (restI (timesI o o) r) r < 256 ∧ dblI (restI (timesI o o) r) r = powUI c r (pre ++ [k]).length := by
  obtain ⟨C, rfl⟩ := Int.eq_ofNat_of_zero_le hc
  obtain ⟨R, rfl⟩ := Int.eq_ofNat_of_zero_le (show 0 ≤ r by omega)
  rw [pow_bit (n := 0) rfl hk] at ht
  subst ho
  unfold powUI
  rw [Int.toNat_natCast, Int.toNat_natCast, timesI_nat, restI_nat, dblI_nat]
  have h2 := dbl_256 (r := R) (rest_256 (n := times (powUp C R pre.length) (powUp C R pre.length)) (r := R) (by omega) (by omega)) (by omega)
  refine ⟨Int.natCast_nonneg _, by omega, ?_⟩
  rw [List.length_append, List.length_singleton, powUp, if_pos (by omega)]
theorem pow_no {c r o k : Int} {pre : List Int} (hc : 0 ≤ c) (hr : 256 ≤ r) (hr2 : r < 512) (h0 : 0 ≤ o) (h1 : o < 256) (ho : o = powUI c r pre.length) (hk : k = 0 + (pre.length : Int)) (hl : pre.length < (((Builtin.Int.intBits c : Nat) : Int) - 0).toNat)
  (ht : Builtin.bitAnd (c.fdiv (2 ^ (((Builtin.Int.intBits c : Nat) : Int) - 1 - k).toNat)) 1 ≠ 1) :
  0 ≤ restI (timesI o o) r ∧ restI (timesI o o) r < 256 ∧ restI (timesI o o) r = powUI c r (pre ++ [k]).length := by
  obtain ⟨C, rfl⟩ := Int.eq_ofNat_of_zero_le hc
  obtain ⟨R, rfl⟩ := Int.eq_ofNat_of_zero_le (show 0 ≤ r by omega)
  rw [pow_bit (n := 0) rfl hk] at ht
  subst ho
  unfold powUI
  rw [Int.toNat_natCast, Int.toNat_natCast, timesI_nat, restI_nat]
  have h2 := rest_256 (n := times (powUp C R pre.length) (powUp C R pre.length)) (r := R) (by omega) (by omega)
  refine ⟨Int.natCast_nonneg _, by omega, ?_⟩
  rw [List.length_append, List.length_singleton, powUp, if_neg (by omega)]
theorem pow_end {c r o : Int} (hc : 0 ≤ c) (h : o = powUI c r (rangeKs 0 (((Builtin.Int.intBits c : Nat) : Int) - 0).toNat).length) : o = powI c r := by
  obtain ⟨C, rfl⟩ := Int.eq_ofNat_of_zero_le hc
  rw [h, rangeKs_length, intBits_cast, Int.sub_zero, Int.toNat_natCast]
  rfl
theorem powUp_256 {c r : Nat} (hr : 256 ≤ r) (hr2 : r < 512) : ∀ k, powUp c r k < 256
  | 0 => by show 1 < 256; decide
  | k + 1 => by
    rw [powUp]
    split
    · exact dbl_256 (rest_256 hr hr2) hr2
    · exact rest_256 hr hr2
theorem left_cast {c r : Int} : Builtin.bitXor (powI c r) 1 = ((powN c.toNat r.toNat ^^^ 1 : Nat) : Int) := by
  unfold powI
  rw [show (1 : Int) = ((1 : Nat) : Int) from rfl, bitXor_cast]
theorem left_256 {c r : Int} (hr : 256 ≤ r) (hr2 : r < 512) : bitsN (powN c.toNat r.toNat ^^^ 1) ≤ 8 :=
  bits_le2 (Nat.xor_lt_two_pow (n := 8) (powUp_256 (by omega) (by omega) _) (by decide))
theorem left_pre1 {c r b : Int} (hr : 256 ≤ r) (hr2 : r < 512) (hb : 0 ≤ b) (hb2 : b < 256) : 0 ≤ Builtin.bitXor (powI c r) 1 ∧ 0 ≤ b ∧ Builtin.Int.intBits (Builtin.bitXor (powI c r) 1) ≤ 10000 ∧ Builtin.Int.intBits b ≤ 10000 := by
  obtain ⟨B, rfl⟩ := Int.eq_ofNat_of_zero_le hb
  have h1 := left_256 (c := c) hr hr2
  have h2 := lt_bits8 (n := B) (by omega)
  rw [left_cast, intBits_cast, intBits_cast]
  exact ⟨Int.natCast_nonneg _, hb, by omega, by omega⟩
theorem left_pre2 {c r b : Int} (hr : 256 ≤ r) (hr2 : r < 512) (hb : 0 ≤ b) (hb2 : b < 256) : 0 ≤ timesI (Builtin.bitXor (powI c r) 1) b ∧ Builtin.Int.intBits (timesI (Builtin.bitXor (powI c r) 1) b) ≤ 100000 ∧ 0 < r := by
  obtain ⟨B, rfl⟩ := Int.eq_ofNat_of_zero_le hb
  have h1 := left_256 (c := c) hr hr2
  have h2 := lt_bits8 (n := B) (by omega)
  rw [left_cast, timesI_nat, intBits_cast]
  have h3 := times_bits (powN c.toNat r.toNat ^^^ 1) B
  exact ⟨Int.natCast_nonneg _, by omega, by omega⟩
theorem left_end {c r b : Int} : restI (timesI (Builtin.bitXor (powI c r) 1) b) r = leftI c r b := by
  rw [left_cast]
  unfold restI timesI leftI leftN
  rw [Int.toNat_natCast, Int.toNat_natCast]
theorem walkF_le (p : Nat) : ∀ f r s : Nat, s ≤ walkF f p r s
  | 0, r, s => Nat.le_refl _
  | f + 1, r, s => by
    have h := walkF_le p f (rest (2 * r) p) (s + 1)
    rw [walkF]
    split <;> omega
theorem walkF_min (p : Nat) : ∀ f r s : Nat, r = xpowN p s → ∀ t, s ≤ t → t < walkF f p r s → xpowN p t ≠ 1
  | 0, r, s, _, t, h1, h2 => absurd h2 (Nat.not_lt.mpr h1)
  | f + 1, r, s, hr, t, h1, h2 => by
    rw [walkF] at h2
    by_cases h : r = 1
    · rw [if_pos h] at h2; omega
    · rw [if_neg h] at h2
      rcases Nat.eq_or_lt_of_le h1 with e | e
      · subst e; rw [← hr]; exact h
      · exact walkF_min p f _ (s + 1) (by rw [hr]; rfl) t e h2
theorem primes_ok : ∀ p ∈ primesN, 0 < p ∧ p < 512 ∧ rest 2 p = xpowN p 1 ∧ xpowN p (ord p) = 1 := by decide +kernel
theorem prime_nat {p : Int} (h : isPrimeI p = true) : ∃ P : Nat, p = (P : Int) ∧ 0 < P ∧ P < 512 ∧ rest 2 P = xpowN P 1 ∧ xpowN P (ord P) = 1 := by
  unfold isPrimeI at h
  rw [Bool.and_eq_true, decide_eq_true_eq] at h
  obtain ⟨h1, h2⟩ := h
  obtain ⟨P, rfl⟩ := Int.eq_ofNat_of_zero_le (Int.le_of_lt h2)
  rw [Int.toNat_natCast] at h1
  exact ⟨P, rfl, primes_ok P (by simpa using h1)⟩
theorem walk_pre0 {p : Int} (h : isPrimeI p = true) : 0 ≤ (2 : Int) ∧ Builtin.Int.intBits 2 ≤ 100000 ∧ 0 < p := by
  obtain ⟨P, rfl, h1, _⟩ := prime_nat h
  exact ⟨by omega, by decide, by omega⟩
theorem xpow_512 {p : Nat} (h1 : 0 < p) (h2 : p < 512) : ∀ k, xpowN p k < 512 := by
  have hr : ∀ n, rest n p < 512 := fun n => by
    have a := rest_small (n := n) h1
    have b := bits_le2 (n := p) (k := 9) h2
    exact Nat.lt_of_lt_of_le (bits_lt _) (Nat.pow_le_pow_right (show 0 < 2 by decide) (show bitsN (rest n p) ≤ 9 by omega))
  intro k
  cases k with
  | zero => exact hr _
  | succ k => exact hr _
theorem walk_pre1 {p s o : Int} (h : isPrimeI p = true) (hs : 1 ≤ s) (hs2 : s ≤ ordI p) (ho : o = xpow p s) : 0 ≤ 2 * o ∧ Builtin.Int.intBits (2 * o) ≤ 100000 ∧ 0 < p := by
  obtain ⟨P, rfl, h1, h2, _⟩ := prime_nat h
  have h3 := xpow_512 h1 h2 s.toNat
  subst ho
  unfold xpow
  rw [Int.toNat_natCast, show (2 : Int) * ((xpowN P s.toNat : Nat) : Int) = ((2 * xpowN P s.toNat : Nat) : Int) by push_cast; rfl, intBits_cast]
  have h4 := bits_le2 (n := 2 * xpowN P s.toNat) (k := 10) (by show _ < 1024; omega)
  exact ⟨Int.natCast_nonneg _, by omega, by omega⟩
theorem walk_start {p : Int} (h : isPrimeI p = true) : 1 ≤ (1 : Int) ∧ 1 ≤ ordI p ∧ restI 2 p = xpow p 1 := by
  obtain ⟨P, rfl, h1, h2, h3, _⟩ := prime_nat h
  refine ⟨by omega, ?_, ?_⟩
  · unfold ordI
    rw [Int.toNat_natCast]
    have := walkF_le P 256 (rest 2 P) 1
    unfold ord
    omega
  · rw [show (2 : Int) = ((2 : Nat) : Int) from rfl, restI_nat, h3]
    unfold xpow
    rw [Int.toNat_natCast]; rfl
theorem walk_step {p s o : Int} (h : isPrimeI p = true) (hs : 1 ≤ s) (hs2 : s ≤ ordI p) (ho : o = xpow p s) (hn : o ≠ 1) : 1 ≤ s + 1 ∧ s + 1 ≤ ordI p ∧ restI (2 * o) p = xpow p (s + 1) := by
  obtain ⟨P, rfl, h1, h2, h3, h4⟩ := prime_nat h
  obtain ⟨S, rfl⟩ := Int.eq_ofNat_of_zero_le (show 0 ≤ s by omega)
  unfold ordI at hs2 ⊢
  rw [Int.toNat_natCast] at hs2 ⊢
  unfold xpow at ho ⊢
  rw [Int.toNat_natCast, Int.toNat_natCast] at ho
  refine ⟨by omega, ?_, ?_⟩
  · rcases Nat.lt_or_ge S (ord P) with hlt | hge
    · omega
    · have : S = ord P := by omega
      rw [this, h4] at ho
      exact absurd ho hn
  · subst ho
    rw [show (2 : Int) * ((xpowN P S : Nat) : Int) = ((2 * xpowN P S : Nat) : Int) by push_cast; rfl, restI_nat, Int.toNat_natCast, show ((S : Int) + 1).toNat = S + 1 by omega]
    rfl
theorem walk_less {p s o : Int} (h : isPrimeI p = true) (hs : 1 ≤ s) (hs2 : s ≤ ordI p) (ho : o = xpow p s) (hn : o ≠ 1) : (ordI p - (s + 1)).toNat < (ordI p - s).toNat := by
  have := walk_step h hs hs2 ho hn
  omega
theorem walk_end {p s o : Int} (h : isPrimeI p = true) (hs : 1 ≤ s) (hs2 : s ≤ ordI p) (ho : o = xpow p s) (hn : o = 1) : s = ordI p := by
  obtain ⟨P, rfl, h1, h2, h3, h4⟩ := prime_nat h
  obtain ⟨S, rfl⟩ := Int.eq_ofNat_of_zero_le (show 0 ≤ s by omega)
  unfold ordI at hs2 ⊢
  rw [Int.toNat_natCast] at hs2 ⊢
  unfold xpow at ho
  rw [Int.toNat_natCast, Int.toNat_natCast] at ho
  rcases Nat.lt_or_ge S (ord P) with hlt | hge
  · have := walkF_min P 256 (rest 2 P) 1 h3 S (by omega) hlt
    exact absurd (by omega) this
  · omega
end Mine
end
-- part A1
section
set_option maxRecDepth 100000
open PySem PySem.W PySem.Calls PyProof.Rows
namespace Mine
abbrev accObj (C d : Addr) (items : Array Value) (n : Nat) : Obj := { cls := .ref C, dict := some d, data := .seq items n }
theorem acc_inst {h₀ h : Heap} {L x C dx : Addr} {items : Array Value} {n : Nat} {news : List (Addr × Obj)} {od : Obj} (N : News h₀ L h news) (h1 : (x, accObj C dx items n) ∈ news) (h2 : (dx, od) ∈ news) :
    InstAt h x (accObj C dx items n) C (some od) := ⟨(N _ h1).1, rfl, rfl, (N _ h2).1⟩
section
variable {prog : Program} {w : World} {A : Around} {E : Value → Shared → Prop} {s : Shared} {K : Frag} {h₀ : Heap} {L : Addr} {m : Str → Option Value} {news : List (Addr × Obj)} {x C : Addr} {ox : Obj} {od : Option Obj} {name : Str}
theorem check_method {M : Model} {i owner n : String} {self : Value} {rest : List Value} {kw : List (Str × Value)} {Q : Unit → Shared → Prop}
    (hk : builtinKind i = some .method) (hs : splitId i = some (owner, n)) (hi : Looks M s.heap (isInstance self (.type owner)) true) (ha : argsOk i ⟨self :: rest, kw⟩) (q : Q () s) :
    wpAny M A (checkBuiltinCall i ⟨self :: rest, kw⟩) Q E s := by
  simp only [checkBuiltinCall, hk, hs]
  refine wpAny_bind (hi.here ?_)
  simp only [Bool.not_true, Bool.false_eq_true, if_false]
  cases hsig : Manifest.signature? i with
  | none => exact wpAny_pure q
  | some sig =>
    simp only [argsOk, hsig] at ha
    have h2 : Bind.checkArgs i sig ⟨self :: rest, kw⟩ = pure () := ha
    show wpAny M A (Bind.checkArgs i sig ⟨self :: rest, kw⟩) Q E s
    rw [h2]; exact wpAny_pure q
theorem acc_isList {M : Model} {h : Heap} (X : K.In h) (I : InstAt h x ox C od) (hm : mroIn K C (.type "list") = some true) : Looks M h (isInstance (.ref x) (.type "list")) true := I.type.andThen (looks_mroIn X hm)
theorem ga_list : (Manifest.canonical "list.__getattribute__" != "object.__getattribute__") = false := by decide +kernel
theorem method_bi {id : String} {t : String} {pl : Sem Bool} {Q : Value × List Value → Shared → Prop} (X : K.In s.heap) (I : InstAt s.heap x ox C od) (hga : findIn K (.ref C) "__getattribute__" = some (some (.builtin "list.__getattribute__"))) (hk : findIn K (.ref C) "__getattr__" = some none)
    (hf : findIn K (.ref C) name = some (some (.builtin id))) (ht : typeOf (.builtin id) = pure (.type t)) (ht2 : ((Value.type t != .type "function") && (Value.type t != .type "method_descriptor") && (Value.type t != .type "wrapper_descriptor")) = false) (hs : shadowIn od name = some false) (h : Q (.builtin id, [.ref x]) s) :
    wpAny (model prog w) A (getMethod (.ref x) name pl) Q E s := by
  unfold getMethod specialOf
  refine wpAny_bind (wpAny_bind (I.type.here ((looks_findIn X hga).here ?_)))
  dsimp only
  rw [ga_list, if_neg (by decide)]
  refine wpAny_bind (wpAny_bind (I.type.here ((looks_findIn X hk).here ?_)))
  refine wpAny_bind (wpAny_bind (I.type.here ((looks_findIn X hf).here (wpAny_bind ((Looks.of_pure ht).here ?_)))))
  rw [if_neg (by first | decide +kernel | (rw [ht2]; decide))]
  refine wpAny_bind (wpAny_loadPart I.at_ ?_)
  have hd := I.dict
  cases e : ox.dict with
  | none => exact wpAny_bind (wpAny_rule (wpAny_pure h))
  | some dx =>
    cases od with
    | none => rw [e] at hd; exact hd.elim
    | some o =>
      rw [e] at hd
      obtain ⟨r, a, b⟩ := Option.map_eq_some_iff.mp hs
      refine wpAny_bind (wpAny_bind (wpAny_loadPart hd ?_))
      rw [nsLook_of a]
      refine wpAny_pure ?_
      rw [b]
      exact wpAny_bind (wpAny_rule (wpAny_pure h))
theorem method_fnL {f : Addr} {pl : Sem Bool} {Q : Value × List Value → Shared → Prop} (X : K.In s.heap) (I : InstAt s.heap x ox C od) (hga : findIn K (.ref C) "__getattribute__" = some (some (.builtin "list.__getattribute__"))) (hk : findIn K (.ref C) "__getattr__" = some none)
    (hf : findIn K (.ref C) name = some (some (.ref f))) (ht : typeIn K (.ref f) = some (.type "function")) (hs : shadowIn od name = some false) (h : Q (.ref f, [.ref x]) s) :
    wpAny (model prog w) A (getMethod (.ref x) name pl) Q E s := by
  unfold getMethod specialOf
  refine wpAny_bind (wpAny_bind (I.type.here ((looks_findIn X hga).here ?_)))
  dsimp only
  rw [ga_list, if_neg (by decide)]
  refine wpAny_bind (wpAny_bind (I.type.here ((looks_findIn X hk).here ?_)))
  refine wpAny_bind (wpAny_bind (I.type.here ((looks_findIn X hf).here (wpAny_bind ((looks_typeIn X ht).here ?_)))))
  rw [if_neg (by first | decide +kernel | (rw [ht2]; decide))]
  refine wpAny_bind (wpAny_loadPart I.at_ ?_)
  have hd := I.dict
  cases e : ox.dict with
  | none => exact wpAny_bind (wpAny_rule (wpAny_pure h))
  | some dx =>
    cases od with
    | none => rw [e] at hd; exact hd.elim
    | some o =>
      rw [e] at hd
      obtain ⟨r, a, b⟩ := Option.map_eq_some_iff.mp hs
      refine wpAny_bind (wpAny_bind (wpAny_loadPart hd ?_))
      rw [nsLook_of a]
      refine wpAny_pure ?_
      rw [b]
      exact wpAny_bind (wpAny_rule (wpAny_pure h))
theorem upd_news {h h' : Heap} {a : Addr} {o o' : Obj} {news' : List (Addr × Obj)} (F : Fr h₀ L h m) (N : News h₀ L h news) (U : Upd a o o' news news') (hs : Heap.SameBut a h h') (ho : h'.get? a = some o') : Fr h₀ L h' m ∧ News h₀ L h' news' := by
  obtain ⟨pre, post, rfl, rfl, a1, a2⟩ := U.split
  have h1 := N (a, o) (List.mem_append.mpr (.inr (.head _)))
  refine ⟨F.change hs h1.2.1 h1.2.2, fun p hp => ?_⟩
  rcases List.mem_append.mp hp with hp | hp
  · have h2 := N p (List.mem_append.mpr (.inl hp))
    exact ⟨(hs.2 p.1 (a1 p hp)).trans h2.1, h2.2⟩
  · rcases List.mem_cons.mp hp with rfl | hp
    · exact ⟨ho, h1.2⟩
    · have h2 := N p (List.mem_append.mpr (.inr (.tail _ hp)))
      exact ⟨(hs.2 p.1 (a2 p hp)).trans h2.1, h2.2⟩
theorem acc_append {dx : Addr} {items : Array Value} {n : Nat} {v : Value} {news' : List (Addr × Obj)} {Q : Value → Shared → Prop} (F : Fr h₀ L s.heap m) (X : K.In h₀) (N : News h₀ L s.heap news) (I : InstAt s.heap x (accObj C dx items n) C od)
    (hm : mroIn K C (.type "list") = some true) (U : Upd x (accObj C dx items n) (accObj C dx (items.push v) (n + 1)) news news') (hz : items.size ≤ 1000) (h : ∀ h', Fr h₀ L h' m → News h₀ L h' news' → Q .none { s with heap := h' }) :
    wpAny (model prog w) A (call (.builtin "list.append") [.ref x, v]) Q E s := by
  have ho := I.at_
  refine wpAny_call (codeAny_call_builtin slot_list_append.plain entry_list_append (check_method (owner := "list") (n := "append") (by decide +kernel) (by decide +kernel) (acc_isList (X.keeps F.keep) I hm) (args_list_append _ _) ?_))
  show wpAny _ _ (updateSeq x (·.push v) >>= fun _ => ret .none) _ _ s
  refine wpAny_bind ?_
  have e : Obj.mapSeq (·.push v) (accObj C dx items n) = accObj C dx (items.push v) (n + 1) := by simp [Obj.mapSeq]
  refine wpAny_updateSeq ho rfl (wpAny_pure ?_) (by rw [sizeLine_eq]; omega) (by rw [Array.size_push, sizeLine_eq]; omega)
  have hg : (s.heap.update x (Obj.mapSeq (·.push v))).get? x = some (accObj C dx (items.push v) (n + 1)) := by
    rw [Heap.get?_update_self _ ho (by rw [e]; rfl), e]
  obtain ⟨F', N'⟩ := upd_news F N U (Heap.SameBut.update ..) hg
  exact h _ F' N'
theorem len_body {dx : Addr} {items : Array Value} {n : Nat} {Q : PySem.Fin → Shared → Prop} (ho : s.heap.get? x = some (accObj C dx items n)) (h : Q (.done (.ret (.int items.size s.toks))) { s with toks := s.toks + 1 }) :
    wpAny (model prog w) A (Builtin.«list.__len__» ⟨[.ref x], []⟩) Q E s := by
  unfold Builtin.«list.__len__»
  show wpAny _ _ (do retInt (← seqSize x)) _ _ s
  unfold seqSize
  refine wpAny_bind (wpAny_bind (wpAny_loadPart ho ?_))
  exact wpAny_pure (wpAny_bind (wpAny_mkInt (wpAny_pure h)))
theorem init_body {dx : Addr} {Q : PySem.Fin → Shared → Prop} (F : Fr h₀ L s.heap m) (N : News h₀ L s.heap news) (ho : s.heap.get? x = some (accObj C dx #[] 0))
    (U : Upd x (accObj C dx #[] 0) (accObj C dx #[] 0) news news) (h : ∀ h', Fr h₀ L h' m → News h₀ L h' news → Q (.done (.ret .none)) { s with heap := h' }) :
    wpAny (model prog w) A (Builtin.«list.__init__» ⟨[.ref x], []⟩) Q E s := by
  unfold Builtin.«list.__init__»
  show wpAny _ _ (Builtin.List.listItems (.ref x) >>= _) _ _ s
  refine wpAny_bind (wpAny_listItems ho rfl ?_)
  show wpAny _ _ (updateSeq x (fun _ => #[]) >>= _) _ _ s
  refine wpAny_bind ?_
  have e : Obj.mapSeq (fun _ => #[]) (accObj C dx #[] 0) = accObj C dx #[] 0 := by simp [Obj.mapSeq]
  refine wpAny_updateSeq ho rfl ?_ (by rw [sizeLine_eq]; simp) (by rw [sizeLine_eq]; simp)
  have hg : (s.heap.update x (Obj.mapSeq (fun _ => #[]))).get? x = some (accObj C dx #[] 0) := by
    rw [Heap.get?_update_self _ ho (by rw [e]; rfl), e]
  obtain ⟨F', N'⟩ := upd_news F N U (Heap.SameBut.update ..) hg
  refine wpAny_bind (wpAny_letGo ?_)
  exact wpAny_pure (h _ F' N')
theorem erase_push (items : Array Value) (v : Value) : (items.push v).eraseIdxIfInBounds items.size = items := by
  obtain ⟨l⟩ := items
  simp
  rw [List.eraseIdx_append_of_length_le (Nat.le_refl _)]
  simp
theorem pop_body {dx : Addr} {items : Array Value} {n : Nat} {v : Value} {news' : List (Addr × Obj)} {Q : PySem.Fin → Shared → Prop} (F : Fr h₀ L s.heap m) (N : News h₀ L s.heap news) (ho : s.heap.get? x = some (accObj C dx (items.push v) n))
    (U : Upd x (accObj C dx (items.push v) n) (accObj C dx items (n + 1)) news news') (hz : items.size ≤ 1000) (h : ∀ h', Fr h₀ L h' m → News h₀ L h' news' → Q (.done (.ret v)) { s with heap := h' }) :
    wpAny (model prog w) A (Builtin.«list.pop» ⟨[.ref x], []⟩) Q E s := by
  unfold Builtin.«list.pop»
  refine wpAny_bind (wpAny_of_eq (show selfAndSome "list.pop" "pop" 0 1 ⟨[.ref x], []⟩ = pure (.ref x, []) from rfl) ?_)
  refine wpAny_bind (wpAny_pure ?_)
  show wpAny _ _ (Builtin.List.listItems (.ref x) >>= _) _ _ s
  refine wpAny_bind (wpAny_listItems ho rfl ?_)
  have he : (items.push v).isEmpty = false := by simp
  rw [he]
  have hi : (seqIndex? (-1) (items.push v).size).bind (fun k => (items.push v)[k]?.map (k, ·)) = some (items.size, v) := by
    have h1 : seqIndex? (-1) (items.push v).size = some items.size := by
      unfold seqIndex?
      simp
      omega
    rw [h1]
    simp
  dsimp only
  simp only [Bool.false_eq_true, if_false]
  rw [hi]
  show wpAny _ _ (updateSeq x (·.eraseIdxIfInBounds items.size) >>= fun _ => ret v) _ _ s
  refine wpAny_bind ?_
  have e : Obj.mapSeq (·.eraseIdxIfInBounds items.size) (accObj C dx (items.push v) n) = accObj C dx items (n + 1) := by
    have h2 := erase_push items v
    have h3 : (items.size == items.size + 1) = false := by simp
    simp [Obj.mapSeq, h2, h3]
  refine wpAny_updateSeq ho rfl (wpAny_pure ?_) (by rw [Array.size_push, sizeLine_eq]; omega) (by rw [sizeLine_eq, erase_push]; omega)
  have hg : (s.heap.update x (Obj.mapSeq (·.eraseIdxIfInBounds items.size))).get? x = some (accObj C dx items (n + 1)) := by
    rw [Heap.get?_update_self _ ho (by rw [e]; rfl), e]
  obtain ⟨F', N'⟩ := upd_news F N U (Heap.SameBut.update ..) hg
  exact h _ F' N'
end
end Mine
end
-- part A2
section
set_option maxRecDepth 100000
open PySem PySem.W PySem.Calls PyProof.Rows
namespace Mine
theorem slot_mdget : Slot "method_descriptor" "__get__" "method_descriptor.__get__" := .of (owner := "method_descriptor") (n := "__get__") (by rw [typeLookup_type, builtinLookup_eq_fast]; kernel_rfl) (by decide +kernel) (by decide +kernel) (by decide +kernel)
  (by first | exact .inl (by decide +kernel) | exact .inr (by decide +kernel)) (by rw [isSubtype_type]; kernel_rfl)
theorem entry_mdget : entryFor table "method_descriptor.__get__" = some Builtin.«method_descriptor.__get__» := entryFor_of_tree (by kernel_rfl)
theorem args_mdget (a b c : Value) : argsOk "method_descriptor.__get__" ⟨[a, b, c], []⟩ := by unfold argsOk; kernel_rfl
theorem slot_wdget : Slot "wrapper_descriptor" "__get__" "wrapper_descriptor.__get__" := .of (owner := "wrapper_descriptor") (n := "__get__") (by rw [typeLookup_type, builtinLookup_eq_fast]; kernel_rfl) (by decide +kernel) (by decide +kernel) (by decide +kernel)
  (by first | exact .inl (by decide +kernel) | exact .inr (by decide +kernel)) (by rw [isSubtype_type]; kernel_rfl)
theorem entry_wdget : entryFor table "wrapper_descriptor.__get__" = some Builtin.«wrapper_descriptor.__get__» := entryFor_of_tree (by kernel_rfl)
theorem args_wdget (a b c : Value) : argsOk "wrapper_descriptor.__get__" ⟨[a, b, c], []⟩ := by unfold argsOk; kernel_rfl
theorem ty_len : typeOf (.builtin "list.__len__") = pure (.type "wrapper_descriptor") := by show builtinType _ = _; rw [builtinType_eq_fast]; kernel_rfl
theorem ty_init : typeOf (.builtin "list.__init__") = pure (.type "wrapper_descriptor") := by show builtinType _ = _; rw [builtinType_eq_fast]; kernel_rfl
theorem ty_pop : typeOf (.builtin "list.pop") = pure (.type "method_descriptor") := by show builtinType _ = _; rw [builtinType_eq_fast]; kernel_rfl
section
variable {prog : Program} {w : World} {A : Around} {E : Value → Shared → Prop} {s : Shared} {K : Frag} {h₀ : Heap} {L : Addr} {m : Str → Option Value} {news : List (Addr × Obj)} {x C : Addr} {ox : Obj} {od : Option Obj} {name : Str} {h : Heap} {g : Array GenState} {d : Drawn} {t : Nat} {os : OsState}
abbrev boundObj (T id : String) (x : Addr) : Obj := { cls := .type T, dict := none, data := .fields #[.builtin id, .ref x], slots := #[] }
theorem mdget_pop {Q : Fin → Shared → Prop} (hi : Looks (model prog w) h (isInstance (.ref x) (.type "list")) true)
    (hq : Q (.done (.ret (.ref h.objs.size))) ⟨h.push (boundObj "builtin_function_or_method" "list.pop" x), g, d, t, os⟩) :
    wpAny (model prog w) A (Builtin.«method_descriptor.__get__» ⟨[.builtin "list.pop", .ref x, .ref C], []⟩) Q E ⟨h, g, d, t, os⟩ := by
  have own : ".".intercalate ("list.pop".cutAt '.').dropLast = "list" := by decide +kernel
  have hi2 : Looks (model prog w) h (isInstance (.ref x) (.type (".".intercalate ("list.pop".cutAt '.').dropLast))) true := by rw [own]; exact hi
  unfold Builtin.«method_descriptor.__get__»
  repeat lk
  exact hq
theorem wdget_init {Q : Fin → Shared → Prop} (hi : Looks (model prog w) h (isInstance (.ref x) (.type "list")) true)
    (hq : Q (.done (.ret (.ref h.objs.size))) ⟨h.push (boundObj "method-wrapper" "list.__init__" x), g, d, t, os⟩) :
    wpAny (model prog w) A (Builtin.«wrapper_descriptor.__get__» ⟨[.builtin "list.__init__", .ref x, .ref C], []⟩) Q E ⟨h, g, d, t, os⟩ := by
  have own : ".".intercalate ("list.__init__".cutAt '.').dropLast = "list" := by decide +kernel
  have hi2 : Looks (model prog w) h (isInstance (.ref x) (.type (".".intercalate ("list.__init__".cutAt '.').dropLast))) true := by rw [own]; exact hi
  unfold Builtin.«wrapper_descriptor.__get__»
  repeat lk
  exact hq
theorem wdget_len {Q : Fin → Shared → Prop} (hi : Looks (model prog w) h (isInstance (.ref x) (.type "list")) true)
    (hq : Q (.done (.ret (.ref h.objs.size))) ⟨h.push (boundObj "method-wrapper" "list.__len__" x), g, d, t, os⟩) :
    wpAny (model prog w) A (Builtin.«wrapper_descriptor.__get__» ⟨[.builtin "list.__len__", .ref x, .ref C], []⟩) Q E ⟨h, g, d, t, os⟩ := by
  have own : ".".intercalate ("list.__len__".cutAt '.').dropLast = "list" := by decide +kernel
  have hi2 : Looks (model prog w) h (isInstance (.ref x) (.type (".".intercalate ("list.__len__".cutAt '.').dropLast))) true := by rw [own]; exact hi
  unfold Builtin.«wrapper_descriptor.__get__»
  repeat lk
  exact hq
theorem super_ga_bi {so D x C : Addr} {id T gid : String} {G : Builtin} {l₀ l : List Value} {K : Frag} {name : Str} {tk : Tok} {Q : Fin → Shared → Prop}
    (hso : h.get? so = some { cls := .type "super", dict := none, data := .fields #[.ref D, .ref x, .ref C], slots := #[] }) (hno : Looks (model prog w) h (opaqueClassAbove (.ref C)) none)
    (hC : Looks (model prog w) h (mroOf (.ref C)) l₀) (hl : (l₀.dropWhile (· != .ref D)).drop 1 = l) (X : K.In h)
    (hf : alongIn K name l = some (some (.builtin id))) (hty : typeOf (.builtin id) = pure (.type T)) (hsl : Slot T "__get__" gid) (hen : entryFor table gid = some G) (har : ∀ a b c, argsOk gid ⟨[a, b, c], []⟩) (hxC : x ≠ C) (hn : (name == ("__class__" : Str)) = false)
    (o : Obj) (hG : ∀ Q' : Fin → Shared → Prop, Q' (.done (.ret (.ref h.objs.size))) ⟨h.push o, g, d, t, os⟩ → wpAny (model prog w) A.in1 (G ⟨[.builtin id, .ref x, .ref C], []⟩) Q' E ⟨h, g, d, t, os⟩)
    (hq : Q (.done (.ret (.ref h.objs.size))) ⟨h.push o, g, d, t, os⟩) :
    wpAny (model prog w) A (Builtin.«super.__getattribute__» ⟨[.ref so, .str name tk], []⟩) Q E ⟨h, g, d, t, os⟩ := by
  have hlk := hsl.lookup
  have hne : (Value.ref x == Value.ref C) = false := by simp [hxC]
  have hTf : (⟨h, g, d, t, os⟩ : Shared).TypeIs (.builtin id) T := hty
  have hdt : ({ cls := .type "super", dict := none, data := .fields #[.ref D, .ref x, .ref C], slots := #[] } : Obj).data = .fields #[.ref D, .ref x, .ref C] := rfl
  have f0 : (#[.ref D, .ref x, .ref C] : Array Value)[0]? = some (.ref D) := rfl
  have f1 : (#[.ref D, .ref x, .ref C] : Array Value)[1]? = some (.ref x) := rfl
  have f2 : (#[.ref D, .ref x, .ref C] : Array Value)[2]? = some (.ref C) := rfl
  unfold Builtin.«super.__getattribute__»
  repeat (first
    | (with_reducible refine wpAny_field hso hdt f0 ?_) | (with_reducible refine wpAny_field hso hdt f1 ?_) | (with_reducible refine wpAny_field hso hdt f2 ?_)
    | (with_reducible refine PySem.ks_wpAny_notOpaque hno ?_)
    | (with_reducible refine Looks.at hC ?_; rw [hl])
    | (refine PySem.ks_forIn_along X (fun _ _ => rfl) rfl ?_ hf)
    | (with_reducible refine wpAny_typeOf hTf ?_)
    | (with_reducible refine wpAny_call_entry hsl hTf hen (hG _ ?_) (har _ _ _))
    | (with_reducible refine ⟨_, rfl, ?_⟩)
    | (simp only [hn, hne, Bool.or_false, Bool.false_eq_true, if_false])
    | wp_step
    | dsimp only)
  all_goals exact hq
theorem getMethod_super_bi {so D x C : Addr} {id T gid : String} {G : Builtin} {l₀ l : List Value} {K : Frag} {name : Str} {pl : Sem Bool} {Q : Value × List Value → Shared → Prop}
    (hso : h.get? so = some { cls := .type "super", dict := none, data := .fields #[.ref D, .ref x, .ref C], slots := #[] }) (hno : Looks (model prog w) h (opaqueClassAbove (.ref C)) none)
    (hC : Looks (model prog w) h (mroOf (.ref C)) l₀) (hl : (l₀.dropWhile (· != .ref D)).drop 1 = l) (X : K.In h)
    (hf : alongIn K name l = some (some (.builtin id))) (hty : typeOf (.builtin id) = pure (.type T)) (hsl : Slot T "__get__" gid) (hen : entryFor table gid = some G) (har : ∀ a b c, argsOk gid ⟨[a, b, c], []⟩) (hxC : x ≠ C) (hn : (name == ("__class__" : Str)) = false)
    (o : Obj) (hG : ∀ (A : Around) (E : Value → Shared → Prop) (t : Nat) (Q' : PySem.Fin → Shared → Prop), Q' (.done (.ret (.ref h.objs.size))) ⟨h.push o, g, d, t, os⟩ → wpAny (model prog w) A (G ⟨[.builtin id, .ref x, .ref C], []⟩) Q' E ⟨h, g, d, t, os⟩)
    (hq : Q (.ref h.objs.size, []) ⟨h.push o, g, d, t + 1, os⟩) :
    wpAny (model prog w) A (getMethod (.ref so) name pl) Q E ⟨h, g, d, t, os⟩ := by
  have hlk := PySem.F.ks_slot_super_ga.lookup
  have hcan := PySem.F.ks_canon_super_ga
  have hT : ∀ t', (⟨h, g, d, t', os⟩ : Shared).TypeIs (.ref so) "super" := fun _ => ⟨_, hso, rfl⟩
  unfold getMethod
  refine wpAny_bind (wpAny_specialOf (hT _) hlk ?_)
  show wpAny _ _ (if (Manifest.canonical "super.__getattribute__" != "object.__getattribute__") = true then _ else _) _ _ _
  rw [if_pos hcan]
  unfold getAttr getAttrBy
  refine wpAny_bind (wpAny_bind (wpAny_mkText (wpAny_holding (wpAny_bind (wpAny_typeOf (hT _) (wpAny_bind (wpAny_of_eq hlk ?_)))))))
  show wpAny _ _ (getAttrByItsOwn (.ref so) (.str name t) (.type "super") (.builtin "super.__getattribute__") true false) _ _ _
  unfold getAttrByItsOwn hookBefore callGetattribute boundAndCalled
  refine wpAny_bind (wpAny_of_eq (show (if onTheHeap (.type "super") then typeLookup (.type "super") "__getattr__" else pure none) = pure none from rfl) ?_)
  refine wpAny_bind (wpAny_attempt (wpAny_holding ?_))
  show wpAny _ _ (bindSpecial (.builtin "super.__getattribute__") (.ref so) >>= _) _ _ _
  refine wpAny_bind (wpAny_of_eq (PySem.F.ks_slot_super_ga.bind _) ?_)
  refine wpAny_mono (Q := fun v s' => v = .ref h.objs.size ∧ s' = ⟨h.push o, g, d, t + 1, os⟩) (E := fun _ _ => False)
    (wpAny_call_entry PySem.F.ks_slot_super_ga (hT _) PySem.F.ks_entry_super_ga (super_ga_bi hso hno hC hl X hf hty hsl hen har hxC hn o (fun Q' q => hG _ _ _ _ q) ⟨_, rfl, rfl, rfl⟩) (PySem.F.ks_gaArgs_super _ _)) (fun v s' hv => ?_) fun _ _ z => z.elim
  obtain ⟨rfl, rfl⟩ := hv
  exact wpAny_pure (wpAny_pure hq)
theorem super_method_bi {so D x C : Addr} {id T gid : String} {G : Builtin} {ox : Obj} {od : Option Obj} {name : Str} {pl : Sem Bool} {Q : Value × List Value → Shared → Prop} (F : Fr h₀ L s.heap m) (X₀ : K.In h₀) (N : News h₀ L s.heap news) (hso : (so, ks_superObj D x C) ∈ news) (I : InstAt s.heap x ox C od) (ho : nsIn K cStatics "thirdparty.any" = some none)
    (hm : ks_superIn K C D name = some (some (.builtin id))) (hty : typeOf (.builtin id) = pure (.type T)) (hsl : Slot T "__get__" gid) (hen : entryFor table gid = some G) (har : ∀ a b c, argsOk gid ⟨[a, b, c], []⟩) (hn : (name == ("__class__" : Str)) = false)
    (o : Obj) (hfr : o.isFreed = false) (hG : ∀ (A : Around) (E : Value → Shared → Prop) (t : Nat) (Q' : PySem.Fin → Shared → Prop), Q' (.done (.ret (.ref s.heap.objs.size))) { s with heap := s.heap.push o, toks := t } → wpAny (model prog w) A (G ⟨[.builtin id, .ref x, .ref C], []⟩) Q' E { s with toks := t })
    (hq : ∀ q h', Fr h₀ L h' m → News h₀ L h' ((q, o) :: news) → (∀ p ∈ news, p.1 < q) → Q (.ref q, []) { s with heap := h', toks := s.toks + 1 }) : wpAny (model prog w) A (getMethod (.ref so) name pl) Q E s := by
  have X : K.In s.heap := X₀.keeps F.keep
  obtain ⟨hh, g, d, t, os⟩ := s
  cases hc : clsIn K C with
  | none => unfold ks_superIn at hm; rw [hc] at hm; cases hm
  | some cd =>
    unfold ks_superIn at hm
    rw [hc] at hm
    refine getMethod_super_bi (N _ hso).1 (looks_opaque X ho) (l₀ := cd.mro) ?_ rfl X hm hty hsl hen har (ks_ne X I hc) hn o hG ?_
    · exact fun A Q E s k q => wpAny_bind ((looks_clsIn X hc) A _ E s k (wpAny_pure q))
    · obtain ⟨F', N', l'⟩ := ks_newsPush (s := ⟨hh, g, d, t, os⟩) (o := o) F N rfl (Heap.get?_push_at rfl hfr) (fun b o e => Heap.get?_push_of_some _ e)
      exact hq _ _ F' N' l'
def BoundAt (T id : String) (q x : Addr) (h : Heap) : Prop := h.get? q = some (boundObj T id x)
theorem callWith_bound {env : Env} {pos : Pos} {T id : String} {q x : Addr} {Q : Value → Shared → Prop} {M : Model} (X : BoundAt T id q x s.heap) (hT : (Value.type T == .type "builtin_function_or_method" || Value.type T == .type "method-wrapper") = true) (hm : (Value.type T != .type "method") = true)
    (h : wpAny M A (call (.ref q) []) Q E s) : wpAny M A (callWith pos (.ref q) [] (backTo pos (starEach [] env)) []) Q E s :=
  callWith_of rfl (P := BoundAt T id q x) (fun h X => ⟨.machine, .inr (.inl rfl), by
    unfold keeperOf
    refine (Looks.ld (part := none) X).andThen ?_
    dsimp only
    rw [if_pos hm, if_pos hT]
    exact .now⟩) (evalArgs_nil3 ⟨X, h⟩)
theorem call_bound {T id : String} {Bi : Builtin} {q x : Addr} {Q : Value → Shared → Prop} (hq : s.heap.get? q = some (boundObj T id x)) (hT : (Value.type T == .type "method" || Value.type T == .type "builtin_function_or_method" || Value.type T == .type "method-wrapper") = true) (hm : (Value.type T != .type "method") = true)
    (hc : ∀ (A : Around) (Q' : Unit → Shared → Prop) (E' : Value → Shared → Prop), Q' () s → wpAny (model prog w) A (checkBoundCall id ⟨[.ref x], []⟩) Q' E' s) (hp : plainId id = true) (hen : entryFor table id = some Bi)
    (hb : wpAny (model prog w) A.in1 (Bi ⟨[.ref x], []⟩) (fun fin s' => ∃ v, fin = .done (.ret v) ∧ Q v s') E s) : wpAny (model prog w) A (call (.ref q) []) Q E s := by
  refine wpAny_call (codeAny_of_tree ?_)
  show wpAny _ A.in1 (callAny (.ref q) ⟨[], []⟩) _ _ _
  unfold callAny
  refine wpAny_bind (wpAny_load hq ?_)
  dsimp only
  rw [if_pos hT]
  show wpAny _ _ (if (Value.type T != .type "method") = true then _ else _) _ _ _
  rw [if_pos hm]
  refine wpAny_bind (hc _ _ _ (wpAny_pure ⟨plainId_quiet hp _, codeAny_builtin hen ?_⟩))
  rw [Around.under_plainId hp]
  refine wpAny_mono hb (fun fin s' z => ?_) fun _ _ z => z
  obtain ⟨v, rfl, hv⟩ := z
  exact hv
theorem bound_len (A : Around) (Q' : Unit → Shared → Prop) (E' : Value → Shared → Prop) (h : Q' () s) : wpAny (model prog w) A (checkBoundCall "list.__len__" ⟨[.ref x], []⟩) Q' E' s := by
  have e : checkBoundCall "list.__len__" ⟨[.ref x], []⟩ = pure () := by kernel_rfl
  rw [e]; exact wpAny_pure h
theorem bound_init (A : Around) (Q' : Unit → Shared → Prop) (E' : Value → Shared → Prop) (h : Q' () s) : wpAny (model prog w) A (checkBoundCall "list.__init__" ⟨[.ref x], []⟩) Q' E' s := by
  have e : checkBoundCall "list.__init__" ⟨[.ref x], []⟩ = pure () := by kernel_rfl
  rw [e]; exact wpAny_pure h
theorem bound_pop {cd : ClassData} {ox : Obj} {od : Option Obj} (X : K.In s.heap) (I : InstAt s.heap x ox C od) (hm : mroIn K C (.type "module") = some false) (hc : clsIn K C = some cd) (hqn : cd.qualname = Str.ofString "_Accumulator") (ht : typeIn K (.ref C) = some (.type "type"))
    (A : Around) (Q' : Unit → Shared → Prop) (E' : Value → Shared → Prop) (h : Q' () s) : wpAny (model prog w) A (checkBoundCall "list.pop" ⟨[.ref x], []⟩) Q' E' s := by
  obtain ⟨hh, g, d, t, os⟩ := s
  have L1 : Looks (model prog w) hh (isInstance (.ref x) (.type "module")) false := I.type.andThen (looks_mroIn X hm)
  have L2 := I.type (M := model prog w)
  have L3 := looks_clsIn (M := model prog w) X hc
  have L4 := looks_typeIn (M := model prog w) X ht
  have hx := I.at_
  have hnc : ∀ c, ox.data ≠ .cls c := fun c e => by
    have := I.no
    unfold notCls at this
    rw [e] at this
    exact Bool.noConfusion this
  obtain ⟨c1, c2, c3, c4, c5⟩ := cd
  simp only at hqn
  subst hqn
  unfold checkBoundCall
  repeat (first | (with_reducible refine PySem.ks_wpAny_isType_inst hx hnc ?_) | lk)
  exact h
end
end Mine
end
-- part A3
section
set_option maxRecDepth 100000
open PySem PySem.W PySem.Calls PyProof.Rows
namespace Mine
def makesL (K : Frag) (C : Addr) : Bool := match K.lookup C with
  | some ⟨_, _, .cls cd, sl⟩ => !cd.abstract && !cd.hasDel && (sl.toList[4]?).join == some (.builtin "list.__new__") && !cd.mro.isEmpty && cd.mro.contains (.ref C) && cd.mro.contains (.type "list") &&
      specialIn K (.ref C) "__call__" == some (some (.builtin "type.__call__")) && instIn K (.ref C) (.type "type") == some true
  | _ => false
structure MakesL (M : Model) (h : Heap) (C : Addr) : Prop where
  obj : ∃ oc od cd sl, h.get? C = some ⟨oc, od, .cls cd, sl⟩ ∧ cd.abstract = false ∧ cd.hasDel = false ∧ cd.mro.isEmpty = false
  made : Looks M h (Bind.madeBy (.ref C)) (some "list.__new__")
  base : Looks M h (Bind.staticBase (.ref C)) (.ref C)
  self : Looks M h (isSubtype (.ref C) (.ref C)) true
  top : Looks M h (isSubtype (.ref C) (.type "list")) true
  call : Looks M h (specialOf (.ref C) "__call__") (some (.builtin "type.__call__"))
  typ : Looks M h (isInstance (.ref C) (.type "type")) true
theorem makesL_of {K : Frag} {M : Model} {h : Heap} (X : K.In h) {C : Addr} (e : makesL K C = true) : MakesL M h C := by
  unfold makesL at e
  split at e
  · rename_i oc od cd sl ho
    simp only [Bool.and_eq_true, Bool.not_eq_true', beq_iff_eq] at e
    obtain ⟨⟨⟨⟨⟨⟨⟨e1, e2⟩, e3⟩, e4⟩, e5⟩, e6⟩, e7⟩, e8⟩ := e
    have hc : clsIn K C = some cd := by unfold clsIn; rw [ho]
    have hm : Looks M h (mroOf (.ref C)) cd.mro := (looks_clsIn X hc).andThen .now
    obtain ⟨c, l, hl⟩ : ∃ c l, cd.mro = c :: l := by cases q : cd.mro with | nil => rw [q] at e4; cases e4 | cons c l => exact ⟨c, l, rfl⟩
    have made : Looks M h (Bind.madeBy (.ref C)) (some "list.__new__") := by
      intro A Q E s k q
      unfold Bind.madeBy
      refine wpAny_bind (hm A _ E s k ?_)
      rw [hl, List.forIn_cons]
      refine wpAny_bind (wpAny_bind (wpAny_bind (wpAny_bind (wpAny_loadPart (k _ _ (X _ _ ho)) (wpAny_pure ?_)))))
      dsimp only
      rw [← Array.getElem?_toList, e3]
      exact wpAny_pure (wpAny_pure (wpAny_pure q))
    refine ⟨⟨oc, od, cd, sl, X _ _ ho, e1, e2, e4⟩, made, ?_, looks_mroIn X ?_, looks_mroIn X ?_, looks_specialIn X e7, looks_instIn X e8⟩
    · intro A Q E s k q
      unfold Bind.staticBase
      refine wpAny_bind (hm A _ E s k ?_)
      rw [hl, List.forIn_cons]
      exact wpAny_bind (wpAny_bind (wpAny_bind (made A _ E s k (wpAny_pure (wpAny_pure (wpAny_pure q))))))
    · unfold mroIn; rw [hc, Option.bind_some, if_neg (by rw [e4]; decide), e5]
    · unfold mroIn; rw [hc, Option.bind_some, if_neg (by rw [e4]; decide), e6]
  · cases e
theorem ln_kind : builtinKind "list.__new__" = some .builtinFn := by decide +kernel
theorem ln_split : splitId "list.__new__" = some ("list", "__new__") := by decide +kernel
section
variable {prog : Program} {w : World} {A : Around} {K : Frag} {C : Addr} {R : Result → Shared → Prop} {h : Heap} {g : Array GenState} {d : Drawn} {t : Nat} {os : OsState}
theorem new_L (Y : MakesL (model prog w) h C)
    (hq : R (.ok (.ret (.ref (h.objs.size + 1)))) ⟨(h.push emptyDict).push (accObj C h.objs.size #[] 0), g, d, t, os⟩) :
    codeAny (model prog w) A (.call (.builtin "list.__new__") ⟨[.ref C], []⟩) R ⟨h, g, d, t, os⟩ := by
  obtain ⟨⟨oc, od, cd, sl, hC, e1, e2, e4⟩, made, base, self, top, call, typ⟩ := Y
  refine codeAny_call_builtin_code (plainId_quiet PySem.F.plain_list_new _) ?_
  have isT : ∀ (A : Around) (Q : Bool → Shared → Prop) (E : Value → Shared → Prop) (t : Nat), Q true ⟨h, g, d, t, os⟩ → wpAny (model prog w) A (isType (.ref C)) Q E ⟨h, g, d, t, os⟩ := fun A Q E t q => PySem.ks_wpAny_isType_cls hC rfl q
  have can : (Manifest.canonical "list.__new__" != Manifest.canonical "list.__new__") = false := by simp
  simp only [checkBuiltinCall, ln_kind, ln_split]
  repeat (first | (with_reducible refine isT _ _ _ _ ?_) | simp only [can, bne_self_eq_false, Bool.false_eq_true, if_false, Bool.not_true] | lk)
  refine PySem.codeAny_builtin_stack PySem.F.entry_list_new rfl fun p st => ?_
  rw [Around.under_plainId PySem.F.plain_list_new _]
  have hown := PySem.owner_list_new
  simp only [hown]
  have hd : (Value.ref h.objs.size) = .ref h.objs.size := rfl
  have hC1 := Heap.get?_push_of_some emptyDict hC
  have hC2 := Heap.get?_push_of_some (accObj C h.objs.size #[] 0) hC1
  repeat (first | (with_reducible refine isT _ _ _ _ ?_) | simp only [e2, Bool.false_eq_true, if_false, Bool.not_true] | lk)
  rw [Heap.size_push]
  exact hq
theorem make_L {init : Value} (Y : MakesL (model prog w) h C) (hi : Looks (model prog w) h (typeLookup (.ref C) "__init__") (some init))
    (hb : ∀ self, Looks (model prog w) h (bindSpecial init self) (init, [self]))
    (hq : codeAny (model prog w) (A.under (.builtin "type.__call__" ⟨[.ref C], []⟩)) (.call init ⟨[.ref (h.objs.size + 1)], []⟩) (InitBack (h.objs.size + 1) R) ⟨(h.push emptyDict).push (accObj C h.objs.size #[] 0), g, d, t, os⟩) :
    codeAny (model prog w) A (.call (.ref C) ⟨[], []⟩) R ⟨h, g, d, t, os⟩ := by
  have Y' := Y
  obtain ⟨⟨oc, od, cd, sl, hC, e1, e2, e4⟩, made, base, self, top, call, typ⟩ := Y
  refine codeAny_of_tree ?_
  show wpAny _ _ (callAny (.ref C) _) _ _ _
  refine nd_load hC ?_
  show wpAny _ _ (callAny.viaDunder (.ref C) _) _ _ _
  unfold callAny.viaDunder
  refine wpAny_bind (call.at ?_)
  dsimp only
  rw [tc_bind]
  refine wpAny_bind (wpAny_pure (wpAny_bind (wpAny_pure ?_)))
  refine wpAny_pure (a := PySem.Fin.again (.call (.builtin "type.__call__") ⟨[.ref C], []⟩)) (And.intro rfl ?_)
  refine codeAny_call_builtin_at (Code.quiet_builtin _ (by decide +kernel)) entry_typeCall (check_slot tc_kind tc_split typ (tc_args _ _ _) ?_)
  unfold Builtin.«type.__call__»
  have hm : Looks (model prog w) h (mroOf (.ref C)) cd.mro := ((Looks.ld (part := none) hC).andThen .now).andThen .now
  repeat (first | simp only [e4, Bool.false_eq_true, if_false] | with_reducible refine wpAny_call ?_ | lk)
  refine new_L Y' ?_
  have k : ∀ b o, h.get? b = some o → ((h.push emptyDict).push (accObj C h.objs.size #[] 0)).get? b = some o := fun b o e => Heap.get?_push_of_some _ (Heap.get?_push_of_some _ e)
  have hx : ((h.push emptyDict).push (accObj C h.objs.size #[] 0)).get? (h.objs.size + 1) = some (accObj C h.objs.size #[] 0) := by heap_get
  have t1 : Looks (model prog w) ((h.push emptyDict).push (accObj C h.objs.size #[] 0)) (typeOf (.ref (h.objs.size + 1))) (.ref C) := (Looks.ld hx).andThen .now
  have s1 := self.keeps k
  have i1 := hi.keeps k
  have b1 := (hb (.ref (h.objs.size + 1))).keeps k
  unfold isInstance callSpecial? specialOf
  repeat (first | with_reducible refine wpAny_call ?_ | lk)
  refine codeAny_mono hq fun r s' z => ?_
  rcases r with e | (v | _ | _ | _) <;> first | exact z | exact z.elim | skip
  obtain ⟨rfl, z⟩ := z
  exact wpAny_pure (wpAny_pure z)
end
section
variable {prog : Program} {w : World} {A : Around} {E : Value → Shared → Prop} {K : Frag} {C : Addr} {s : Shared} {h₀ : Heap} {L : Addr} {m : Str → Option Value} {news : List (Addr × Obj)} {Q : Value → Shared → Prop}
theorem call_clsL {fI : Addr} (F : Fr h₀ L s.heap m) (X₀ : K.In h₀) (N : News h₀ L s.heap news) (hm : makesL K C = true) (hi : findIn K (.ref C) "__init__" = some (some (.ref fI))) (hf : typeIn K (.ref fI) = some (.type "function"))
    (h : ∀ x dx h', Fr h₀ L h' m → News h₀ L h' ((x, accObj C dx #[] 0) :: (dx, dictOf [] 0) :: news) → (∀ p ∈ news, p.1 < dx) → dx < x →
      codeAny (model prog w) (A.under (.builtin "type.__call__" ⟨[.ref C], []⟩)) (.call (.ref fI) ⟨[.ref x], []⟩) (InitBack x fun r s' => match r with | .ok (.ret v) => Q v s' | .ok _ => False | .error e => E e s') { s with heap := h' }) :
    wpAny (model prog w) A (call (.ref C) [] []) Q E s := by
  have X := X₀.keeps F.keep
  obtain ⟨hh, g, d, t, os⟩ := s
  refine wpAny_call (make_L (makesL_of X hm) (looks_findIn X hi) (fun self => bind_fn X self hf) (h _ hh.objs.size _ ((F.push _).push _) ?_ (fun p hp => Heap.lt_size (N p hp).1) (Nat.lt_succ_self _)))
  have := (N.push F emptyDict).push (F.push _) (accObj C hh.objs.size #[] 0)
  rwa [Heap.size_push] at this
end
end Mine
end
-- part B1
section
set_option maxRecDepth 100000
set_option maxHeartbeats 1000000
open PySem PySem.W PySem.Calls PyProof.Rows Builtin Builtin.ObjectAttr Builtin.Getset_descriptor
namespace Mine
def listOver (K : Frag) (C : Addr) : Bool := (clsIn K C).any fun cd => cd.mro == [.ref C, .type "list", .type "object"]
theorem refuse_list (self : Value) (C : Addr) : refuseLoop self "__setattr__" [.ref C, .type "list", .type "object"] = pure () := by
  rw [refuseLoop_ref]
  kernel_rfl
section
variable {prog : Program} {w : World} {A : Around} {E : Value → Shared → Prop} {K : Frag} {C x : Addr} {s : Shared} {h₀ : Heap} {L : Addr} {m : Str → Option Value} {news : List (Addr × Obj)} {R : Result → Shared → Prop}
theorem osa_openL {ox : Obj} {od : Option Obj} {name : Str} {tk : Tok} {v : Value} {r : Option Value} (X : K.In s.heap) (I : InstAt s.heap x ox C od) (hp : listOver K C = true) (ht : takerIn K C name = some r)
    (h : ∀ b, wpAny (model prog w) A.in1 (match r with | some a => setByDescriptor a (.ref x) v | none => storeInOwnDict (.ref x) (.ref C) (.str name tk) name v b)
      (fun fin s' => match fin with | .done f => R (.ok f) s' | .again c' => c'.quiet = true ∧ codeAny (model prog w) A c' R s') (fun e s' => R (.error e) s') s) :
    codeAny (model prog w) A (.call (.builtin "object.__setattr__") ⟨[.ref x, .str name tk, v], []⟩) R s := by
  have SF := PySem.F.store_object
  obtain ⟨cd, hc, ho⟩ := any_some hp
  have ho : cd.mro = [.ref C, .type "list", .type "object"] := by simpa using ho
  have ne : cd.mro.isEmpty = false := by rw [ho]; rfl
  have sub : Looks (model prog w) s.heap (isInstance (.ref x) (.type "object")) true := I.type.andThen (looks_mroIn X (by unfold mroIn; rw [hc, Option.bind_some, if_neg (by rw [ne]; decide), ho]; simp))
  refine codeAny_call_builtin SF.slot.plain SF.entry (@check_slot (model prog w) _ _ s "object.__setattr__" "object" "__setattr__" (.ref x) [.str name tk, v] [] _ SF.kind SF.split sub (SF.args (.ref x) (.str name tk) v) ?_)
  obtain ⟨attr, ha, hr⟩ := Option.bind_eq_some_iff.mp ht
  have hm : Looks (model prog w) s.heap (mroOf (.ref C)) cd.mro := (looks_clsIn X hc).andThen .now
  have L3 : Looks (model prog w) s.heap (storeTaker? attr) r := by
    cases attr with
    | none => cases hr; exact .now
    | some a =>
      obtain ⟨b, hb, rfl⟩ := Option.map_eq_some_iff.mp hr
      refine (looks_takesIn X hb).andThen ?_
      cases b <;> exact .now
  rw [osa_eq, refuse_eq]
  refine wpAny_bind (wpAny_bind (I.type.here (wpAny_bind (hm.here ?_))))
  rw [ho, refuse_list]
  refine wpAny_pure (wpAny_bind (I.type.here (wpAny_bind ((looks_findIn X ha).here (wpAny_bind (L3.here ?_))))))
  exact h _
theorem osa_dictL {ox od od' : Obj} {dx : Addr} {name : Str} {tk : Tok} {v : Value} {pre post : List (Addr × Obj)} {es : List DictEntry} {n : Nat} (F : Fr h₀ L s.heap m) (N : News h₀ L s.heap (pre ++ (dx, od) :: post)) (X : K.In s.heap)
    (I : InstAt s.heap x ox C (some od)) (hd : ox.dict = some dx) (hp : listOver K C = true) (ht : takerIn K C name = some none) (hh : (clsIn K C).any (·.hasDict) = true)
    (hl : (lookIn name od).isSome = true) (h1 : ∀ p ∈ pre, p.1 ≠ dx) (h2 : ∀ p ∈ post, p.1 ≠ dx)
    (e : Obj.putName name (PyData.keyHash w.params name) (.str name s.toks) v od = od') (e' : od'.data = .dict es.toArray n) (hz : es.length ≤ 1000)
    (h : ∀ h', Fr h₀ L h' m → News h₀ L h' (pre ++ (dx, od') :: post) → R (.ok (.ret .none)) { s with heap := h', toks := s.toks + 1 }) :
    codeAny (model prog w) A (.call (.builtin "object.__setattr__") ⟨[.ref x, .str name tk, v], []⟩) R s := by
  refine osa_openL X I hp ht fun b => ?_
  obtain ⟨cd, hc, hd'⟩ := any_some hh
  obtain ⟨U1, U2⟩ := news_upd (f := Obj.putName name (PyData.keyHash w.params name) (.str name s.toks) v) F N h1 h2 e (by obtain ⟨_, _, dd, _⟩ := od'; cases e'; rfl)
  have D := (N (dx, od) (by simp)).1
  have D' := (U2 (dx, od') (by simp)).1
  obtain ⟨hx, hcl, hn, -⟩ := I
  obtain ⟨oc, odi, oda, osl⟩ := ox
  dsimp only at hcl hd
  subst hcl hd
  refine wpAny_bind (wpAny_pure (wpAny_bind (wpAny_bind (wpAny_loadPart hx (wpAny_bind ((looks_clsIn X hc).here ?_))))))
  rw [hd']
  refine wpAny_pure (a := some dx) (wpAny_bind (wpAny_pure (wpAny_bind ?_)))
  unfold nsSet
  refine wpAny_bind (wpAny_bind (wpAny_askSetting (wpAny_pure (wpAny_bind (wpAny_mkText (wpAny_bind (wpAny_loadPart D ?_)))))))
  unfold lookIn at hl
  split at hl
  · rename_i es₀ n₀ q
    rw [q]
    dsimp only
    have c : (!es₀.any (·.key.isStr name) && es₀.any (·.refKey)) = false := by
      rw [← Array.any_toList, ← Array.any_toList]
      split at hl
      · rename_i en he
        rw [List.any_eq_true.mpr ⟨en, List.mem_of_find?_eq_some he, List.find?_some he⟩]; rfl
      · split at hl
        · cases hl
        · rename_i z; rw [Bool.not_eq_true] at z; rw [z, Bool.and_false]
    rw [aRefKeyMayBeTheName_at, c]
    refine wpAny_updatePart D ?_
    refine wpAny_bind (wpAny_lookBehind D' (by rw [e']; exact pastItsLine_dict (by rw [List.size_toArray, sizeLine_eq]; omega)) ?_)
    exact wpAny_pure (h _ U1 U2)
  · cases hl
theorem set_dictL {dx : Addr} {ox : Obj} {es es' : List DictEntry} {n n' : Nat} {name : Str} {v : Value} {news' : List (Addr × Obj)} {Q : Unit → Shared → Prop} (F : Fr h₀ L s.heap m) (X₀ : K.In h₀) (N : News h₀ L s.heap news) (I : InstAt s.heap x ox C (some (dictOf es n))) (hd : ox.dict = some dx)
    (hs : findIn K (.ref C) "__setattr__" = some (some (.builtin "object.__setattr__"))) (hp : listOver K C = true) (ht : takerIn K C name = some none) (hh : hasDictIn K C = true) (hl : (getL name es).isSome = true)
    (e : (putL name (PyData.keyHash w.params name) (.str name (s.toks + 1)) v es, putN name es n) = (es', n')) (U : Upd dx (dictOf es n) (dictOf es' n') news news') (hz : es'.length ≤ 1000)
    (h : ∀ h', Fr h₀ L h' m → News h₀ L h' news' → Q () { s with heap := h', toks := s.toks + 2 }) :
    wpAny (model prog w) A (setAttr (.ref x) name v) Q E s := by
  obtain ⟨pre, post, rfl, rfl, a, b⟩ := U.split
  obtain ⟨e1, e2⟩ := Prod.mk.inj e
  exact set_plain (X₀.keeps F.keep) I hs (osa_dictL (s := { s with toks := s.toks + 1 }) F N (X₀.keeps F.keep) I hd hp ht hh hl a b (by rw [putName_dict, e1, e2]) rfl hz fun h' F' N' => h h' F' N')
end
end Mine
end
-- part A4
section
open PySem PySem.W PyProof.Rows
set_option maxRecDepth 100000
namespace Mine
section

abbrev accD (hs : Int) (tk t0 : Tok) : Obj := dictOf [⟨hs, .str (Str.ofString "_initial_size") tk, .int 0 t0⟩] 1
abbrev CtrQ (d : Nat) (w : World) (f : Addr) (vs : List Value) (P : Heap → Addr → (Str → Option Value) → Heap → Prop) (Z : (Value → Shared → Prop) → Heap → Addr → (Str → Option Value) → Shared → Prop) : Prop :=
  ∀ (p : Program) (loose : List Str) (mean : ExcName → Option Value) (mg mb : Str → Option Value) (dp un : Nat) (gd : Option (List Code)) (cn : Str) (cs : Scope) (a : Addr) (ccd : Value) (cl : List (Str × Addr)) (outer : List Env) (A₀ : Around) (base h₀ : Heap) (L : Addr) (m : Str → Option Value) (s : Shared) (Q E : Value → Shared → Prop),
    Below A₀ base outer h₀ → Fr h₀ L s.heap m → (Mine.hd.heap_1 w.params).In h₀ → P h₀ L m s.heap → Top p loose mean mg mb h₀ → cs.kind = .function →
    dp + d < recursionLimit → un + 8 * d < cLine → Z Q h₀ L m s →
      wpAny (model PySem.Challenge.pw_tr0044_01 w) (ktrTop dp un gd cn cs L a ccd cl outer) (call (.ref f) vs) Q E s
local macro_rules | `(tactic| k_inst) => `(tactic| (refine' acc_inst ?N ?h1 ?h2; (case N => k_asm); (case h1 => k_mem); (case h2 => k_mem)))
local macro_rules | `(tactic| walk_at "getMethod ref") => `(tactic| (k_here; k_dflt (first
  | (refine' super_method_bi (id := "list.__len__") ?k1 ?k2 ?k3 ?k4 ?k5 ?k6 ?k7 ty_len slot_wdget entry_wdget args_wdget ?k9 (boundObj "method-wrapper" "list.__len__" _) rfl (fun _ _ _ _ q => wdget_len (acc_isList (Frag.In.keeps (by k_asm) (Fr.keep (by k_asm))) (by k_inst) (by k_is)) q) ?_; (case k1 => k_asm); (case k2 => k_asm); (case k3 => k_asm); (case k4 => k_mem); (case k5 => k_inst); (case k6 => k_is); (case k7 => ks_is); (case k9 => decide); intro q' h' F' N' l1; (try k_lt l1))
  | (refine' super_method_bi (id := "list.__init__") ?k1 ?k2 ?k3 ?k4 ?k5 ?k6 ?k7 ty_init slot_wdget entry_wdget args_wdget ?k9 (boundObj "method-wrapper" "list.__init__" _) rfl (fun _ _ _ _ q => wdget_init (acc_isList (Frag.In.keeps (by k_asm) (Fr.keep (by k_asm))) (by k_inst) (by k_is)) q) ?_; (case k1 => k_asm); (case k2 => k_asm); (case k3 => k_asm); (case k4 => k_mem); (case k5 => k_inst); (case k6 => k_is); (case k7 => ks_is); (case k9 => decide); intro q' h' F' N' l1; (try k_lt l1))
  | (refine' super_method_bi (id := "list.pop") ?k1 ?k2 ?k3 ?k4 ?k5 ?k6 ?k7 ty_pop slot_mdget entry_mdget args_mdget ?k9 (boundObj "builtin_function_or_method" "list.pop" _) rfl (fun _ _ _ _ q => mdget_pop (acc_isList (Frag.In.keeps (by k_asm) (Fr.keep (by k_asm))) (by k_inst) (by k_is)) q) ?_; (case k1 => k_asm); (case k2 => k_asm); (case k3 => k_asm); (case k4 => k_mem); (case k5 => k_inst); (case k6 => k_is); (case k7 => ks_is); (case k9 => decide); intro q' h' F' N' l1; (try k_lt l1)))))
local macro_rules | `(tactic| walk_at "callWith ref") => `(tactic| (k_here; k_dflt (refine' callWith_bound (T := "method-wrapper") ?k1 (by decide) (by decide) ?_; (case k1 => exact (News.get (by k_asm) (by k_mem))))))
local macro_rules | `(tactic| walk_at "callWith ref") => `(tactic| (k_here; k_dflt (refine' callWith_bound (T := "builtin_function_or_method") ?k1 (by decide) (by decide) ?_; (case k1 => exact (News.get (by k_asm) (by k_mem))))))

local macro_rules | `(tactic| walk_at "call ref") => `(tactic| (k_here; k_dflt (refine' call_bound (T := "method-wrapper") (id := "list.__len__") (News.get (by k_asm) (by k_mem)) (by decide) (by decide) (fun _ _ _ q => bound_len _ _ _ q) (by decide +kernel) PySem.F.entry_list_len (len_body (C := 115) (News.get (by k_asm) (by k_mem)) ⟨_, rfl, ?_⟩))))
set_option maxRecDepth 100000 in
set_option maxHeartbeats 8000000 in
theorem count_c (w : World) (P dx : Addr) (items : Array Value) (n : Nat) (od : Obj) (rest : List (Addr × Obj)) :
    CtrQ 4 w 112 [.ref P] (fun h₀ L m h => News h₀ L h ((P, accObj 115 dx items n) :: (dx, od) :: rest)) (fun Q h₀ L m s => ∀ (t : Tok) (h' : Heap) (tk' : Nat), Fr h₀ L h' m → News h₀ L h' ((P, accObj 115 dx items n) :: (dx, od) :: rest) → Q (.int items.size t) { s with heap := h', toks := tk' }) := by
  unfold CtrQ
  intro pgm loose mean mg mb dp un gd cn cs a ccd cl outer A₀ base h₀ L m s Q E B F X N T hk hd hu hret
  skip
  have fill : PySem.Challenge.rw_tr0044_01 = PySem.Challenge.rw_tr0044_01 ∧ Mine.hd.heap_1 = Mine.hd.heap_1 := by
    k_fill
    exact ⟨rfl, rfl⟩
  clear fill
  refine wpAny_call ?_
  k_dflt (refine' ks_code_super ?k1 ?k2 ?k3 ?k4 ?k5 ?kA ?kF ?kK ?k6 ?k7 ?k8 ?k9 ?kB ?_ ?c1 ?c2 ?c3 ?c4; (case kA => exact rfl); (case kF => exact rfl); (case kK => first | exact rfl | assumption); (case k1 => k_asm); (case k2 => k_asm); (case k3 => k_asm); (case k4 => k_asm); (case k5 => k_asm); (case k6 => k_is); (case k7 => k_is); (case k8 => ktr_room); (case k9 => first | exact BindsTo.of_eq rfl | exact binds_K (by k_in) rfl (by k_is) rfl rfl rfl); (case kB => exact locs rfl); (case c1 => decide); (case c2 => exact rfl); (case c3 => exact rfl); (case c4 => exact rfl); intro g' L' h' FG' F' N' B' X' T' l1; (try dsimp only); (try k_lift B'))
  k_with_none
  k_steps
  exact hret _ _ _ (by k_asm) (by first | k_asm | (refine' cb_drop ?cbN ?cbS; (case cbN => assumption); (case cbS => kcj_all)))
end
end Mine
end
-- part B2
section
open PySem PySem.W PyProof.Rows
set_option maxRecDepth 100000
namespace Mine
section
local macro_rules | `(tactic| k_inst) => `(tactic| (refine' acc_inst ?N ?h1 ?h2; (case N => k_asm); (case h1 => k_mem); (case h2 => k_mem)))
local macro_rules | `(tactic| walk_at "no key at all") => `(tactic| skip)
local macro_rules | `(tactic| walk_at "getMethod ref") => `(tactic| (k_here; k_dflt (first
  | (refine' super_method_bi (id := "list.__len__") ?k1 ?k2 ?k3 ?k4 ?k5 ?k6 ?k7 ty_len slot_wdget entry_wdget args_wdget ?k9 (boundObj "method-wrapper" "list.__len__" _) rfl (fun _ _ _ _ q => wdget_len (acc_isList (Frag.In.keeps (by k_asm) (Fr.keep (by k_asm))) (by k_inst) (by k_is)) q) ?_; (case k1 => k_asm); (case k2 => k_asm); (case k3 => k_asm); (case k4 => k_mem); (case k5 => k_inst); (case k6 => k_is); (case k7 => ks_is); (case k9 => decide); intro q' h' F' N' l1; (try k_lt l1))
  | (refine' super_method_bi (id := "list.__init__") ?k1 ?k2 ?k3 ?k4 ?k5 ?k6 ?k7 ty_init slot_wdget entry_wdget args_wdget ?k9 (boundObj "method-wrapper" "list.__init__" _) rfl (fun _ _ _ _ q => wdget_init (acc_isList (Frag.In.keeps (by k_asm) (Fr.keep (by k_asm))) (by k_inst) (by k_is)) q) ?_; (case k1 => k_asm); (case k2 => k_asm); (case k3 => k_asm); (case k4 => k_mem); (case k5 => k_inst); (case k6 => k_is); (case k7 => ks_is); (case k9 => decide); intro q' h' F' N' l1; (try k_lt l1))
  | (refine' super_method_bi (id := "list.pop") ?k1 ?k2 ?k3 ?k4 ?k5 ?k6 ?k7 ty_pop slot_mdget entry_mdget args_mdget ?k9 (boundObj "builtin_function_or_method" "list.pop" _) rfl (fun _ _ _ _ q => mdget_pop (acc_isList (Frag.In.keeps (by k_asm) (Fr.keep (by k_asm))) (by k_inst) (by k_is)) q) ?_; (case k1 => k_asm); (case k2 => k_asm); (case k3 => k_asm); (case k4 => k_mem); (case k5 => k_inst); (case k6 => k_is); (case k7 => ks_is); (case k9 => decide); intro q' h' F' N' l1; (try k_lt l1)))))
local macro_rules | `(tactic| walk_at "callWith ref") => `(tactic| (k_here; k_dflt (refine' callWith_bound (T := "method-wrapper") ?k1 (by decide) (by decide) ?_; (case k1 => exact (News.get (by k_asm) (by k_mem))))))
local macro_rules | `(tactic| walk_at "callWith ref") => `(tactic| (k_here; k_dflt (refine' callWith_bound (T := "builtin_function_or_method") ?k1 (by decide) (by decide) ?_; (case k1 => exact (News.get (by k_asm) (by k_mem))))))
local macro_rules | `(tactic| walk_at "setAttr ref") => `(tactic| (k_here; k_dflt (refine' set_dictL ?k1 ?k2 ?k3 ?k4 ?k5 ?k6 ?k7 ?k8 ?k9 ?k10 ?k11 ?k12 ?k13 ?_; (case k1 => k_asm); (case k2 => k_asm); (case k3 => k_asm); (case k4 => k_inst); (case k5 => exact rfl); (case k6 => k_is); (case k7 => kernel_rfl); (case k8 => k_is); (case k9 => k_is); (case k10 => first | k_get | exact rfl); (case k11 => k_put); (case k12 => k_upd); (case k13 => exact Nat.le_of_ble_eq_true rfl); k_whole; intro h' F' N'; (try k_sweep))))

def HoldI (P : Prop) : Prop := P
theorem HoldI.mk {P : Prop} (h : HoldI P) : P := h
local macro_rules | `(tactic| walk_at "wpAt") => `(tactic| (refine ks_wpAt_execs_cons ?_; (try dsimp only); refine HoldI.mk ?_))
local macro_rules | `(tactic| walk_at "call ref") => `(tactic| (k_here; k_dflt (refine' call_bound (T := "method-wrapper") (id := "list.__init__") (News.get (by k_asm) (by k_mem)) (by decide) (by decide) (fun _ _ _ q => bound_init _ _ _ q) (by decide +kernel) PySem.F.entry_list_init (init_body (C := 115) (by k_asm) (by k_asm) (News.get (by k_asm) (by k_mem)) ?kU (fun h' F' N' => ⟨_, rfl, ?_⟩)); (case kU => (refine' Upd.tail ?ka (Upd.tail ?kb (Upd.head (List.forall_mem_cons.mpr ⟨by assumption, by assumption⟩))); (case ka => k_ne); (case kb => k_ne))))))
set_option maxRecDepth 100000 in
set_option maxHeartbeats 8000000 in
theorem accnew_c (w : World) (news : List (Addr × Obj)) :
    CtrQ 4 w 115 [] (fun h₀ L m h => News h₀ L h news) (fun Q h₀ L m s => ∀ (P dx : Addr) (tk t : Tok) (h' : Heap) (tk' : Nat), Fr h₀ L h' m → News h₀ L h' ((P, accObj 115 dx #[] 0) :: (dx, accD (PyData.keyHash w.params (Str.ofString "_initial_size")) tk t) :: news) → (∀ p ∈ news, p.1 < dx) → dx < P → Q (.ref P) { s with heap := h', toks := tk' }) := by
  unfold CtrQ
  intro pgm loose mean mg mb dp un gd cn cs a ccd cl outer A₀ base h₀ L m s Q E B F X N T hk hd hu hret
  skip
  have fill : PySem.Challenge.rw_tr0044_01 = PySem.Challenge.rw_tr0044_01 ∧ Mine.hd.heap_1 = Mine.hd.heap_1 := by
    k_fill
    exact ⟨rfl, rfl⟩
  clear fill
  refine' call_clsL ?k1 ?k2 ?k3 ?k4 ?k5 ?k6 ?_
  case k1 => k_asm
  case k2 => k_asm
  case k3 => k_asm
  case k4 => kernel_rfl
  case k5 => k_dflt k_is
  case k6 => k_dflt k_is
  intro x d' h1 F1 N1 l1 l2
  have la := l1
  have lb := l2
  have hnx : ∀ p ∈ news, p.1 ≠ x := fun p hp => Nat.ne_of_lt (Nat.lt_trans (la p hp) lb)
  have hdx : d' ≠ x := Nat.ne_of_lt lb
  replace l1 := allLt_of l1
  k_lt2 l2
  k_dflt (refine' ks_code_super ?k1 ?k2 ?k3 ?k4 ?k5 ?kA ?kF ?kK ?k6 ?k7 ?k8 ?k9 ?kB ?_ ?c1 ?c2 ?c3 ?c4; (case kA => exact rfl); (case kF => exact rfl); (case kK => first | exact rfl | assumption); (case k1 => k_asm); (case k2 => k_asm); (case k3 => k_asm); (case k4 => k_asm); (case k5 => k_asm); (case k6 => k_is); (case k7 => k_is); (case k8 => ktr_room); (case k9 => first | exact BindsTo.of_eq rfl | exact binds_K (by k_in) rfl (by k_is) rfl rfl rfl); (case kB => exact locs rfl); (case c1 => decide); (case c2 => exact rfl); (case c3 => exact rfl); (case c4 => exact rfl); intro g' L' h' FG' F' N' B' X' T' l1; (try dsimp only); (try k_lift B'))
  k_with_none
  k_steps
  unfold HoldI
  k_steps
  unfold HoldI
  refine ks_wpAt_Expr_any ?_
  refine ks_wpAt_MethodCall ?_
  k_steps
  exact hret _ _ _ _ _ _ (by k_asm) (by refine' cb_drop ?cbN ?cbS; (case cbN => assumption); (case cbS => kcj_all)) la lb
end
end Mine
end
-- part B3
section
set_option maxRecDepth 100000
set_option maxHeartbeats 1000000
open PySem PySem.W PySem.Calls PyProof.Rows
namespace Mine
def SeqAt (h : Heap) (l : Addr) (items : Array Value) : Prop := ∃ o n, h.get? l = some o ∧ o.data = .seq items n
theorem SeqAt.at {h h' : Heap} {l : Addr} {items : Array Value} (x : SeqAt h l items) (k : ∀ o, h.get? l = some o → h'.get? l = some o) : SeqAt h' l items := let ⟨o, n, a, b⟩ := x; ⟨o, n, k _ a, b⟩
section
variable {prog : Program} {w : World} {A : Around} {E : Value → Shared → Prop} {K : Frag} {C x : Addr} {s : Shared} {h₀ : Heap} {L : Addr} {m : Str → Option Value} {news : List (Addr × Obj)} {od : Option Obj}
theorem iter_acc {dx : Addr} {items : Array Value} {n : Nat} {Q : Value → Shared → Prop} (F : Fr h₀ L s.heap m) (X₀ : K.In h₀) (I : InstAt s.heap x (accObj C dx items n) C od)
    (hi : findIn K (.ref C) "__iter__" = some (some (.builtin "list.__iter__"))) (hm : mroIn K C (.type "list") = some true)
    (hQ : Q (.ref s.heap.objs.size) { s with heap := s.heap.push { cls := .type "list_iterator", data := .fields #[.ref x, .int 0 0] } }) :
    wpAny (model prog w) A (pyIter (.ref x)) Q E s := by
  have X := X₀.keeps F.keep
  unfold pyIter
  refine wpAny_bind (wpAny_bind (I.type.here ((looks_findIn X hi).here ?_)))
  show wpAny (model prog w) A (callSpecialIfBoundUnlessNone? (.ref x) "__iter__" _ >>= _) _ _ _
  refine wpAny_bind ?_
  have hc : wpAny (model prog w) A (call (.builtin "list.__iter__") [.ref x]) (fun it s' => ∃ T' r, s'.TypeIs it T' ∧ typeLookup (.type T') "__next__" = pure (some r) ∧ Q it s') E s := by
    refine wpAny_call (codeAny_call_builtin slot_list_iter.plain entry_list_iter (check_slot (owner := "list") (n := "__iter__") (by decide +kernel) (by decide +kernel) (acc_isList X I hm) (args_list_iter _) ?_))
    show wpAny _ _ (do ret (← newFields "list_iterator" [.ref x, rawInt 0])) _ _ s
    exact wpAny_bind (wpAny_newObj_type (wpAny_pure ⟨"list_iterator", _, ⟨_, Heap.get?_push_size _ rfl, rfl⟩, slot_listiter_next.lookup, hQ⟩))
  simp only [callSpecialIfBoundUnlessNone?, bindSpecialIfBound?]
  refine wpAny_holding (wpAny_bind (wpAny_bind (wpAny_bind (I.type.here ((looks_findIn X hi).here ?_)))))
  simp only [slot_list_iter.bind]
  refine wpAny_bind (wpAny_askSetting (wpAny_ite ?_))
  have fin : wpAny (model prog w) A (if (Value.builtin "list.__iter__" == Value.none) = true then ((do rule "iter.none"; raiseError "TypeError" s!"'{← typeNameOf (.ref x)}' object is not iterable") >>= fun v => pure (some v)) else (call (.builtin "list.__iter__") [.ref x] >>= fun v => pure (some v))) (fun o s' => wpAny (model prog w) A (match o with
      | some it => do
        match ← specialOf it "__next__" with
        | none => rule "iter.non-iterator"; raiseError "TypeError" s!"iter() returned non-iterator of type '{← typeNameOf it}'"
        | some _ => pure it
      | none => do
        match ← bindSpecialIfBound? (.ref x) "__getitem__" with
        | none => rule "iter.not-iterable"; raiseError "TypeError" s!"'{← typeNameOf (.ref x)}' object is not iterable"
        | some _ => rule "iter.getitem-fallback"; newFields "iterator" [.ref x, ← mkInt 0]) Q E s') E s := by
    simp only [builtin_beq_none, Bool.false_eq_true, if_false]
    refine wpAny_bind (wpAny_mono hc (fun it s' h' => wpAny_pure ?_) fun _ _ h' => h')
    obtain ⟨T', r, hT', hl, hQ⟩ := h'
    exact wpAny_bind (wpAny_specialOf hT' hl (wpAny_pure hQ))
  split
  · exact wpAny_bind (wpAny_pure (wpAny_pure fin))
  · exact wpAny_tryCatch (wpAny_bind (wpAny_pure (wpAny_pure fin)))
theorem next_item {it l : Addr} {i : Nat} {items : Array Value} {v : Value} {Q : Option Value → Shared → Prop} (hit : s.heap.IsListIter it l i)
    (hl : SeqAt s.heap l items) (hx : items[i]? = some v)
    (hQ : ∀ h', h'.IsListIter it l (i + 1) → Heap.SameBut it s.heap h' → Q (some v) { s with heap := h' }) :
    wpAny (model prog w) A (pyNext (.ref it)) Q E s := by
  obtain ⟨o, ho, hc, hd⟩ := id hit
  obtain ⟨ol, nl, hol, hdl⟩ := hl
  unfold pyNext
  refine wpAny_bind (wpAny_attempt (wpAny_callSpecial?_slot (name := Str.ofString "__next__") hit.typeIs slot_listiter_next
    (wpAny_call_entry slot_listiter_next hit.typeIs entry_listiter_next ?_ (args_listiter_next _))))
  show wpAny _ _ (field (.ref it) 0 >>= _) _ _ s
  refine wpAny_bind (wpAny_field ho hd (x := .ref l) rfl ?_)
  show wpAny _ _ (if (Value.ref l == Value.none) = true then _ else _) _ _ s
  rw [if_neg (show ¬ ((Value.ref l == Value.none) = true) from Bool.false_ne_true)]
  show wpAny _ _ (field (.ref it) 1 >>= _) _ _ s
  refine wpAny_bind (wpAny_field ho hd (x := .int i 0) rfl ?_)
  show wpAny _ _ (seqItems? (.ref l) >>= _) _ _ s
  refine wpAny_bind (wpAny_seqItems hol hdl ?_)
  simp only [Int.toNat_natCast, hx]
  refine wpAny_bind (wpAny_setField ho hd (by simp) (wpAny_pure ⟨v, rfl, wpAny_pure (hQ _ ?_ (Heap.SameBut.update ..))⟩))
  exact ⟨_, Heap.get?_update_self _ ho (Obj.isFreed_of_fields (Obj.data_mapFields hd _)), (Obj.cls_mapFields ..).trans hc, by
    rw [Obj.data_mapFields hd]; simp [rawInt]⟩
theorem next_end {it l : Addr} {i : Nat} {items : Array Value} {Q : Option Value → Shared → Prop} (hh : A.handled = none)
    (hit : s.heap.IsListIter it l i) (hl : SeqAt s.heap l items) (hx : items[i]? = none)
    (hQ : ∀ h', Heap.ExtBut it s.heap h' → Q none { s with heap := h' }) : wpAny (model prog w) A (pyNext (.ref it)) Q E s := by
  obtain ⟨o, ho, hc, hd⟩ := id hit
  obtain ⟨ol, nl, hol, hdl⟩ := hl
  unfold pyNext
  refine wpAny_bind (wpAny_attempt (wpAny_callSpecial?_slot (name := Str.ofString "__next__") hit.typeIs slot_listiter_next
    (wpAny_call_entry slot_listiter_next hit.typeIs entry_listiter_next ?_ (args_listiter_next _))))
  show wpAny _ _ (field (.ref it) 0 >>= _) _ _ s
  refine wpAny_bind (wpAny_field ho hd (x := .ref l) rfl ?_)
  show wpAny _ _ (if (Value.ref l == Value.none) = true then _ else _) _ _ s
  rw [if_neg (show ¬ ((Value.ref l == Value.none) = true) from Bool.false_ne_true)]
  show wpAny _ _ (field (.ref it) 1 >>= _) _ _ s
  refine wpAny_bind (wpAny_field ho hd (x := .int i 0) rfl ?_)
  show wpAny _ _ (seqItems? (.ref l) >>= _) _ _ s
  refine wpAny_bind (wpAny_seqItems hol hdl ?_)
  simp only [Int.toNat_natCast, hx]
  refine wpAny_bind (wpAny_rule (wpAny_bind (wpAny_setField ho hd (by simp) ?_)))
  show wpAny _ _ (newExc (.type "StopIteration") [] >>= _) _ _ _
  refine wpAny_bind ?_
  simp only [newExc, newTuple]
  refine wpAny_bind (wpAny_newObj_type ?_ (by size_fits))
  refine wpAny_bind (m := firstArgMember _ _) (wpAny_of_eq (a := Value.none) (by first | rfl | (simp only [firstArgMember]; rfl)) ?_)
  refine wpAny_newObj_type ?_ (by size_fits)
  simp only [raiseNew]
  refine wpAny_bind (wpAny_handled ?_)
  rw [show A.in1.handled = none from hh]
  refine wpAny_bind (wpAny_pure (wpAny_throw ?_))
  refine wpAny_bind (wpAny_isInstance (T := "StopIteration") (b := true) ⟨_, Heap.get?_push_size _ rfl, rfl⟩ isSubtype_stop ?_)
  exact wpAny_pure (hQ _ (((Heap.SameBut.update ..).extBut.push _).push _))
theorem walksAcc {prog : Program} {w : World} {A : Around} (hh : A.handled = none) (I ax : Addr) (hne : ax ≠ I) (items : Array Value) (Ts : Nat → Addr) (vals : Nat → Array Value)
    (hit : ∀ j, j < items.size → items[j]? = some (.ref (Ts j))) (hTI : ∀ j, j < items.size → Ts j ≠ I) :
    WalksU prog w A I (I :: ax :: (List.range items.size).map Ts) [I] items.size (fun j v => j < items.size ∧ v = vals j)
      (fun j h => h.IsListIter I ax j ∧ SeqAt h ax items ∧ ∀ k, k < items.size → h.IsTuple (Ts k) (vals k))
      (fun j T h => (j < items.size ∧ T = Ts j) ∧ h.IsListIter I ax (j + 1) ∧ SeqAt h ax items ∧ ∀ k, k < items.size → h.IsTuple (Ts k) (vals k)) where
  sub := fun b hb => by simp at hb; simp [hb]
  frame := fun _ _ _ st hk => ⟨st.1.at fun o e => hk I (by simp) o e, st.2.1.at fun o e => hk ax (by simp) o e,
    fun k hk' => (st.2.2 k hk').at fun o e => hk (Ts k) (List.mem_cons_of_mem _ (List.mem_cons_of_mem _ (List.mem_map.mpr ⟨k, List.mem_range.mpr hk', rfl⟩))) o e⟩
  item := fun i s Q E hi st hQ => by
    refine next_item st.1 st.2.1 (v := .ref (Ts i)) (hit i hi) fun h' hit' hs' => ?_
    have tup : ∀ k, k < items.size → h'.IsTuple (Ts k) (vals k) := fun k hk' => (st.2.2 k hk').extBut hs'.extBut (hTI k hk')
    exact hQ (Ts i) (vals i) h' s.toks ⟨hi, rfl⟩ (tup i hi) ⟨⟨hi, rfl⟩, hit', st.2.1.at (fun o e => hs'.extBut ax o hne e), tup⟩ fun b o hb e => hs'.extBut b o (fun h => hb (by simp [h])) e
  go := fun _ _ _ _ _ s Q _ hm hQ => wpAny_letOwnedTupleGo_listiter hm.2.1 (hQ s.heap hm.2 fun _ _ _ e => e)
  apart := fun j T _ hm hmem => by
    rcases List.mem_cons.mp hmem with e | e
    · exact hTI j hm.1.1 (hm.1.2 ▸ e)
    · cases e
  done := fun s Q E st hQ => next_end hh st.1 st.2.1 (by simp) fun h' he' => hQ h' s.toks fun b o hb e => he' b o (fun h => hb (by simp [h])) e
  self := fun _ _ _ _ st hQ => wpAny_pyIter_listiter st.1 hQ
theorem genexpr_any {M : Model} {env : Env} {c P : Addr} {ps : Array Value} {pos : Pos} {qualname : Str} {scope : Scope} {Q : Value → Shared → Prop} (hc : env.code = .ref c) (C : CodeHd s.heap c P) (hP : s.heap.get? P = some (tabObj ps)) (ht : TriplesOk ps.toList)
    (hQ : ∀ code h' tk ps', Heap.ExtBut P s.heap h' → s.heap.objs.size ≤ h'.objs.size → h'.get? P = some (tabObj ps') → TriplesOk ps'.toList → Q code { s with heap := h', toks := tk }) :
    wpAny M A (genexprCode env pos qualname scope) Q E s := by
  cases hf : codeAmong pos ps.toList with
  | some c' => exact wpAny_genexprCode_hit hc (C.code hP ht) hf (hQ c' s.heap s.toks ps (Heap.ExtBut.refl _ _) (Nat.le_refl _) hP ht)
  | none =>
    refine wpAny_genexprCodeX hc (C.code hP ht) (C.tab hP) hf fun c' h' tk hx hge hlt hcode _ htab _ => ?_
    obtain ⟨o, vs, file, tf, flags, tg, inF, text, tt, op, ho, hd, h11, h2, h7, h9, h10, hop, hpd, htr, hne⟩ := hcode
    exact hQ _ _ _ _ hx (Nat.le_trans hge (Nat.le_of_lt hlt)) htab.2 htr
end
end Mine
end
-- part B4
section
set_option maxRecDepth 100000
set_option maxHeartbeats 1000000
open PySem PySem.W PySem.Calls PyProof.Rows
namespace Mine
def GenZ (prog : Program) (w : World) (A : Around) (z a : Addr) (n : Nat) (F : Nat → Value → Prop) (s : Shared) : Prop :=
  ∃ fp wr g St, WalksS prog w A.in4 a fp wr (GenOnlyQ g) n F St ∧ St 0 s ∧ (∀ b ∈ fp, b < s.heap.objs.size) ∧ ∀ b ∈ wr, z ≤ b
theorem passing_all (n : Nat) : passing (fun _ => true) n 0 = List.range n := by simp [passing]
theorem WalksS.weaken {prog : Program} {w : World} {A : Around} {I : Addr} {fp wr : List Addr} {G : Array GenState → Array GenState → Prop} {n : Nat} {P P' : Nat → Value → Prop} {St : Nat → Shared → Prop}
    (W : WalksS prog w A I fp wr G n P St) (h : ∀ i v, P i v → P' i v) : WalksS prog w A I fp wr G n P' St where
  sub := W.sub
  grefl := W.grefl
  gtrans := W.gtrans
  frame := W.frame
  item := fun i s Q E hi st hQ => W.item i s Q E hi st fun v s' hP => hQ v s' (h i v hP)
  done := W.done
  self := W.self
section
variable {prog : Program} {w : World} {A : Around} {E : Value → Shared → Prop} {K : Frag} {x : Addr} {s : Shared} {h₀ : Heap} {L c P dx : Addr} {m mg mb : Str → Option Value} {news rest : List (Addr × Obj)} {od : Obj} {p : Program} {loose : List Str} {mean : ExcName → Option Value} {ps items : Array Value} {nn : Nat}
theorem gen_acc {Cc : Addr} {env : Env} {elt iter : Expr} {xa xb : Str} {pa pb pt : Pos} {kt : Nat} {scope : Scope} {pos : Pos} {F : Nat → Value → Prop} {Pv : Nat → Value → Value → Prop} {Q : Value → Shared → Prop}
    (Fx : Fr h₀ L s.heap m) (X₀ : K.In h₀) (T : Top p loose mean mg mb h₀) (C : CodeHd h₀ c P) (N : News h₀ L s.heap ((P, tabObj ps) :: rest)) (hP : ∀ q ∈ rest, q.1 ≠ P) (ht : TriplesOk ps.toList)
    (hG : env.globals = mainGlobals) (hc : env.code = .ref c) (G : AllBare s.gens)
    (hx : (x, accObj Cc dx items nn) ∈ rest) (hdx : (dx, od) ∈ rest)
    (hi : findIn K (.ref Cc) "__iter__" = some (some (.builtin "list.__iter__"))) (hm : mroIn K Cc (.type "list") = some true)
    (hit : ∀ j, j < items.size → ∃ T va vb, items[j]? = some (.ref T) ∧ (T, { cls := .type "tuple", data := .seq #[va, vb] }) ∈ rest ∧ Pv j va vb)
    (hiter : ∀ Q' : Value → Shared → Prop, Q' (.ref x) s → wpAny (model prog w) A (eval iter env) Q' E s)
    (hh : A.handled = none) (hco : scope.isCoroutine = false) (hclos : closureFor scope env = pure []) (hcell : ∀ y ∈ scope.names, y.2 ≠ .cell) (h0 : scope.names.lookup (".0" : Str) = some NameKind.local)
    (hxa : scope.names.lookup xa = some .local) (hxb : scope.names.lookup xb = some .local) (hab : xa ≠ xb) (hkind : scope.kind = .function) (hroom : A.depth < recursionLimit)
    (hq : ∀ code C' (A' : Around) E' i va vb (s₂ : Shared) m₂, A'.handled = none → i < items.size → Pv i va vb → s₂.heap.Ns C' m₂ → m₂ xa = some va → m₂ xb = some vb → (∀ b o, h₀.get? b = some o → s₂.heap.get? b = some o) →
      wpAny (model prog w) A' (eval elt (genEnv scope [] C' code builtinsNs env)) (fun y s₃ => F i y ∧ Keeps s₂ s₃) E' s₂)
    (hQ : ∀ a h' g' tk' ps', Fr h₀ L h' m → News h₀ L h' ((P, tabObj ps') :: rest) → TriplesOk ps'.toList → AllBare g' → GenZ prog w A s.heap.objs.size a items.size F { s with heap := h', gens := g', toks := tk' } →
      Q (.ref a) { s with heap := h', gens := g', toks := tk' })
    (hs : ∀ x, genFold iter env x = pure x) :
    wpAny (model prog w) A (eval (.GeneratorExp elt [⟨.Tuple [.Name xa pa, .Name xb pb] kt pt, iter, [], 0⟩] scope pos) env) Q E s := by
  have hPn : h₀.get? P = none := (N _ (.head _)).2.2
  have hPat : s.heap.get? P = some (tabObj ps) := (N _ (.head _)).1
  have hxat : s.heap.get? x = some (accObj Cc dx items nn) := (N _ (.tail _ hx)).1
  have hxP : x ≠ P := hP _ hx
  have hPlt : P < s.heap.objs.size := Heap.lt_size hPat
  have hxlt : x < s.heap.objs.size := Heap.lt_size hxat
  have hlim : s.heap.NoLimit := T.nolimit.keeps Fx.keep
  have hcP : cStatics ≠ P := fun e => by
    obtain ⟨_, hns, _⟩ := T.nolimit
    obtain ⟨o, es, ep, ho, hd, _⟩ := hns
    rw [e, hPn] at ho; cases ho
  have hclt : cStatics < s.heap.objs.size := by obtain ⟨_, hns, _⟩ := hlim; exact hns.lt
  let Ts : Nat → Addr := fun j => match items[j]? with | some (.ref t) => t | _ => 0
  let vals : Nat → Array Value := fun j => match s.heap.get? (Ts j) with | some o => (match o.data with | .seq xs _ => xs | _ => #[]) | none => #[]
  have hTs : ∀ j, j < items.size → items[j]? = some (.ref (Ts j)) ∧ s.heap.IsTuple (Ts j) (vals j) ∧ (∃ va vb, vals j = #[va, vb] ∧ Pv j va vb) ∧ Ts j ≠ P := fun j hj => by
    obtain ⟨t, va, vb, e, hmem, hp⟩ := hit j hj
    have e1 : Ts j = t := by simp only [Ts, e]
    have e2 : s.heap.get? t = some { cls := .type "tuple", data := .seq #[va, vb] } := (N _ (.tail _ hmem)).1
    have e3 : vals j = #[va, vb] := by simp only [vals, e1, e2]
    refine ⟨by rw [e1, e], ⟨_, by rw [e1]; exact e2, rfl, ⟨_, by rw [e3]⟩⟩, ⟨va, vb, e3, hp⟩, by rw [e1]; exact hP _ hmem⟩
  have hTlt : ∀ j, j < items.size → Ts j < s.heap.objs.size := fun j hj => by obtain ⟨_, ⟨o, e, _⟩, _⟩ := hTs j hj; exact Heap.lt_size e
  have W := fun (A' : Around) (hA : A'.handled = none) => walksAcc (prog := prog) (w := w) hA s.heap.objs.size x (Nat.ne_of_lt hxlt) items Ts vals (fun j hj => (hTs j hj).1) fun j hj => Nat.ne_of_lt (hTlt j hj)
  obtain ⟨bm, ob, M⟩ := bmod_of_top T
  refine wpAny_GeneratorExp_walksQT hh hco hclos hcell h0 hxa hxb hab hkind hroom (hiter _ ?_) hs
  refine iter_acc Fx X₀ (acc_inst N (.tail _ hx) (.tail _ hdx)) hi hm ⟨hlim.push _, ?_⟩
  generalize hH : s.heap.push { cls := .type "list_iterator", data := .fields #[.ref x, .int 0 0] } = H
  have hHk : ∀ b o, s.heap.get? b = some o → H.get? b = some o := fun b o e => hH ▸ Heap.get?_push_of_some _ e
  have hHz : H.objs.size = s.heap.objs.size + 1 := by rw [← hH, Heap.size_push]
  have hHi : H.get? s.heap.objs.size = some { cls := .type "list_iterator", data := .fields #[.ref x, .int 0 0] } := by rw [← hH]; exact Heap.get?_push_size _ rfl
  refine genexpr_any hc (C.keeps fun b o e => hHk b o (Fx.keep b o e)) (hHk _ _ hPat) ht fun code h₃ tk₃ ps' hx₃ hge hP₃ ht' => ?_
  have keep₃ : ∀ b o, h₀.get? b = some o → h₃.get? b = some o := fun b o e => hx₃ b o (fun e' => by rw [e', hPn] at e; cases e) (hHk b o (Fx.keep b o e))
  have M₃ := M.keeps keep₃
  rw [hG]
  refine wpAny_builtinsFor M₃.ns M₃.name M₃.ne M₃.obj M₃.cls M₃.dict M₃.data ?_
  have hl₃ : h₃.NoLimit := T.nolimit.keeps keep₃
  have tup₃ : ∀ k, k < items.size → h₃.IsTuple (Ts k) (vals k) := fun k hk => by
    obtain ⟨_, ⟨o, e, r⟩, _, hne⟩ := hTs k hk
    exact ⟨o, hx₃ _ _ hne (hHk _ _ e), r⟩
  have hz₃ : s.heap.objs.size < h₃.objs.size := Nat.lt_of_lt_of_le (by rw [hHz]; exact Nat.lt_succ_self _) hge
  refine ⟨s.heap.objs.size, _, [s.heap.objs.size], items.size, _, _, _, (fun _ => true), F, rfl, W, (fun i v hv => ?_), ⟨⟨_, hx₃ _ _ (Nat.ne_of_gt hPlt) hHi, rfl, rfl⟩, ⟨_, _, hx₃ _ _ hxP (hHk _ _ hxat), rfl⟩, tup₃⟩, ?_, hl₃, ?_, ?_, ?_⟩
  · obtain ⟨hi', rfl⟩ := hv
    obtain ⟨_, _, ⟨va, vb, e, _⟩, _⟩ := hTs i hi'
    exact ⟨va, vb, e⟩
  · intro b hb
    show b < h₃.objs.size
    rcases List.mem_cons.mp hb with rfl | hb
    · exact hz₃
    · rcases List.mem_cons.mp hb with rfl | hb
      · exact Nat.lt_trans hxlt hz₃
      · obtain ⟨k, hk, rfl⟩ := List.mem_map.mp hb
        exact Nat.lt_trans (hTlt k (List.mem_range.mp hk)) hz₃
  · intro hb
    rcases List.mem_cons.mp hb with e | hb
    · exact absurd (e ▸ hclt) (Nat.lt_irrefl _)
    · cases hb
  · intro href hhref
    refine ⟨fun A' E' i va vb s₂ m₂ hA hv hn ha hb hk => ?_, fun A' E' i va vb s₂ m₂ hA hv _ hn ha hb hk => ?_⟩
    · simp only [List.forIn_nil]
      exact wpAny_pure ⟨rfl, s₂.heap, s₂.toks, rfl, fun _ _ e => e⟩
    · obtain ⟨hi', e⟩ := hv
      obtain ⟨_, _, ⟨va', vb', e', hp⟩, _⟩ := hTs i hi'
      rw [e'] at e
      obtain ⟨rfl, rfl⟩ : va = va' ∧ vb = vb' := by simpa using congrArg Array.toList e
      refine hq code _ A' E' i va vb s₂ m₂ hA hi' hp hn ha hb fun b o e₀ => ?_
      have e₁ := keep₃ b o e₀
      refine hk b (List.mem_range.mpr (Heap.lt_size e₁)) (fun hm => ?_) o (hhref b o e₁)
      rcases List.mem_cons.mp hm with rfl | hm
      · exact Nat.lt_irrefl _ (Heap.lt_size (Fx.keep _ _ e₀))
      · cases hm
  · intro a h₅ tk gs hgb hag hsz₅ hk₅ WS hat
    have k5 : ∀ b o, b ≠ P → s.heap.get? b = some o → h₅.get? b = some o := fun b o hb e => hk₅ b o (hx₃ b o hb (hHk b o e))
    refine hQ a h₅ _ _ ps' ⟨Fx.ns.at' fun o e => k5 _ o (fun e' => by
        have := (N _ (.head _)).2.1
        exact this e'.symm) e, fun b o e => hk₅ b o (keep₃ b o e), Fx.above⟩ (fun q hq' => ?_) ht' (G.push hgb) ?_
    · rcases List.mem_cons.mp hq' with rfl | hq'
      · exact ⟨hk₅ _ _ hP₃, (N _ (.head _)).2⟩
      · exact ⟨k5 _ _ (hP q hq') (N q (.tail _ hq')).1, (N q (.tail _ hq')).2⟩
    · have hn : (passing (fun _ => true) items.size 0).length = items.size := by rw [passing_all]; simp
      have WS' := WalksS.weaken WS (P' := F) (fun j y hy => by
        obtain ⟨i, hi', hF⟩ := hy
        rw [passing_all] at hi'
        have : i = j := by
          obtain ⟨hj, e⟩ := List.getElem?_eq_some_iff.mp hi'
          simpa using e.symm
        exact this ▸ hF)
      rw [hn] at WS'
      refine ⟨_, _, _, _, WS', hat, ?_, ?_⟩
      · intro b hb
        show b < h₅.objs.size
        rw [hsz₅]
        rcases List.mem_cons.mp hb with rfl | hb
        · exact Nat.lt_succ_self _
        · rcases List.mem_cons.mp hb with rfl | hb
          · exact Nat.lt_succ_of_lt hag
          · exact Nat.lt_succ_of_lt (Nat.lt_trans (List.mem_range.mp hb) hag)
      · intro b hb
        rcases List.mem_cons.mp hb with rfl | hb
        · exact Nat.le_of_lt hz₃
        · rcases List.mem_cons.mp hb with rfl | hb
          · exact Nat.le_refl _
          · cases hb
end
end Mine
end
-- part B5
section
set_option maxRecDepth 100000
set_option maxHeartbeats 1000000
open PySem PySem.W PySem.Calls PyProof.Rows
namespace Mine
section
variable {prog : Program} {w : World} {A : Around} {E : Value → Shared → Prop} {K : Frag} {C x : Addr} {s : Shared} {h₀ : Heap} {L : Addr} {m : Str → Option Value} {ox : Obj} {od : Option Obj} {name : Str} {expr : Bool}
theorem ga_entry : entryFor table "list.__getattribute__" = some Builtin.«object.__getattribute__» :=
  entryFor_alias (id' := "object.__getattribute__") (by kernel_rfl) (by decide +kernel) (by decide +kernel) (by kernel_rfl)
theorem ga_call {v : Value} {t : Tok} {Q : Value → Shared → Prop} (X : K.In s.heap) (I : InstAt s.heap x ox C od) (hm : mroIn K C (.type "list") = some true) (hf : findObj K C od name = some (.value v)) (h : Q v s) :
    wpAny (model prog w) A (call (.builtin "list.__getattribute__") [.ref x, .str name t]) Q E s := by
  have hl := acc_isList (M := model prog w) X I hm
  have L0 := I.type (M := model prog w)
  have L3 := looks_find (M := model prog w) X I hf
  refine wpAny_call (codeAny_call_builtin PySem.F.slot_list_getattribute.plain ga_entry (check_slot (i := "list.__getattribute__") (owner := "list") (n := "__getattribute__") (by decide +kernel) (by decide +kernel) hl (PySem.F.args_list_getattribute_2 _ _) ?_))
  unfold Builtin.«object.__getattribute__»
  refine wpAny_bind (wpAny_pure (a := (Value.ref x, [Value.str name t])) ?_)
  refine wpAny_bind (wpAny_pure (a := name) ?_)
  refine wpAny_bind (L0.here (wpAny_bind (L3.here ?_)))
  exact wpAny_pure h
theorem get_valueL {v : Value} {Q : Value → Shared → Prop} (X : K.In s.heap) (I : InstAt s.heap x ox C od) (hga : findIn K (.ref C) "__getattribute__" = some (some (.builtin "list.__getattribute__"))) (hk : findIn K (.ref C) "__getattr__" = some none) (hm : mroIn K C (.type "list") = some true)
    (hf : findObj K C od name = some (.value v)) (hh : handedIn v = true) (h : Q v { s with toks := s.toks + 1 }) : wpAny (model prog w) A (getAttr (.ref x) name expr) Q E s := by
  have hl := acc_isList (M := model prog w) X I hm
  obtain ⟨hp, g, d, t, os⟩ := s
  have L0 := I.type (M := model prog w)
  have L1 := looks_findIn (M := model prog w) X hga
  have L2 := looks_findIn (M := model prog w) X hk
  have L3 := looks_find (M := model prog w) X I hf
  unfold getAttr getAttrBy
  refine wpAny_bind (wpAny_mkText (wpAny_holding (wpAny_bind (L0.at (wpAny_bind (L1.at ?_))))))
  dsimp only
  rw [if_neg (by rw [show (Value.builtin "list.__getattribute__" == Value.builtin "object.__getattribute__") = false from by decide, Bool.and_false]; decide)]
  unfold getAttrByItsOwn
  refine wpAny_bind ?_
  unfold hookBefore
  rw [if_pos (by rfl)]
  refine L2.at ?_
  refine wpAny_bind (wpAny_attempt (wpAny_holding ?_))
  have e : callGetattribute (.ref x) (.str name t) (.builtin "list.__getattribute__") expr = boundAndCalled (.builtin "list.__getattribute__") (.ref x) (.str name t) := by
    unfold callGetattribute
    rw [if_neg (by rw [show onTheHeap (Value.builtin "list.__getattribute__") = false from rfl, Bool.and_false]; decide)]
  rw [e]
  unfold boundAndCalled
  refine wpAny_bind ?_
  rw [PySem.F.slot_list_getattribute.bind]
  refine wpAny_pure ?_
  dsimp only [List.cons_append, List.nil_append]
  refine ga_call X I hm hf ?_
  show wpAny _ _ (handedOut v) _ _ _
  rw [handedOut_of hh]; exact wpAny_pure h
theorem get_ownL {es : List DictEntry} {n : Nat} {v : Value} {attr : Option Value} {Q : Value → Shared → Prop} (F : Fr h₀ L s.heap m) (X₀ : K.In h₀) (I : InstAt s.heap x ox C (some (dictOf es n))) (hga : findIn K (.ref C) "__getattribute__" = some (some (.builtin "list.__getattribute__"))) (hk : findIn K (.ref C) "__getattr__" = some none) (hm : mroIn K C (.type "list") = some true) (hh : hasDictIn K C = true)
    (ha : findIn K (.ref C) name = some attr) (hn : noGet K attr = true) (hl : getL name es = some (some v)) (hv : handedIn v = true) (h : Q v { s with toks := s.toks + 1 }) :
    wpAny (model prog w) A (getAttr (.ref x) name expr) Q E s :=
  get_valueL (X₀.keeps F.keep) I hga hk hm (findObj_own hh ha hn hl) hv h
theorem args_sum2 (a b : Value) : argsOk "sum" ⟨[a, b], []⟩ := by unfold argsOk; kernel_rfl
theorem call_sum2 {y : Value} {t : Tok} {Q : Value → Shared → Prop}
    (h : wpAny (model prog w) A.in1 (pyIter y) (fun it s₂ => ∃ I fp wr G n P St val, it = .ref I ∧ WalksS prog w A.in1 I fp wr G n P St ∧ St 0 s₂ ∧ (∀ b ∈ fp, b < s₂.heap.objs.size) ∧
      (∀ i v, P i v → ∃ t, v = .int (val i) t) ∧
      ∀ s' t', Moved wr G s₂ s' → Q (.int (preSum val n) t') s') E s) :
    wpAny (model prog w) A (call (.builtin "sum") [y, .int 0 t]) Q E s := by
  refine call_function_tree PySem.F.kind_sum PySem.F.plain_sum PySem.F.entry_sum (args_sum2 _ _) ?_
  unfold Builtin.«sum»
  simp only [List.length_cons, List.length_nil]
  rw [if_neg (by decide)]
  refine wpAny_bind (wpAny_of_eq (show Builtin.Builtins.bindParams "sum" ["start"] 0 ⟨[.int 0 t], []⟩ = pure [some (.int 0 t)] from rfl) ?_)
  refine wpAny_bind (wpAny_mono h (fun it s₂ h₂ => ?_) fun _ _ e => e)
  obtain ⟨I, fp, wr, G, n, P, St, val, rfl, W, hst, hfp, hval, hQ⟩ := h₂
  refine wpAny_bind (wpAny_rule (wpAny_bind (wpAny_mkInt (wpAny_bind (wpAny_pure ?_)))))
  simp only [List.forIn_cons, List.forIn_nil]
  refine wpAny_bind (wpAny_bind (wpAny_bind (wpAny_isInstance (T := "int") (b := false) (typeIs_int _ _ _) PySem.sub_int_str ?_)))
  simp only [Bool.false_eq_true, if_false]
  refine wpAny_pure (wpAny_bind (wpAny_bind (wpAny_isInstance (T := "int") (b := false) (typeIs_int _ _ _) PySem.sub_int_bytes ?_)))
  simp only [Bool.false_eq_true, if_false]
  refine wpAny_pure (wpAny_bind (wpAny_bind (wpAny_isInstance (T := "int") (b := false) (typeIs_int _ _ _) PySem.sub_int_bytearray ?_)))
  simp only [Bool.false_eq_true, if_false]
  refine wpAny_pure (wpAny_pure ?_)
  refine wpAny_bind (wpAny_newObj_type ?_)
  have hSf : s₂.heap.objs.size ∉ fp := fun hm => Nat.lt_irrefl _ (hfp _ hm)
  refine wpAny_pure ⟨plainId_quiet PySem.F.plain_sum_loop _, codeAny_sum_loopAnyS W val hval s₂.heap.objs.size hSf n 0 _ s₂.toks 0 0 (.inl rfl) rfl (Nat.zero_le _)
    (W.frame 0 s₂ _ _ hst (by first | exact Nat.le_refl _ | exact Nat.le_succ _ | omega) fun b _ o e => Heap.get?_push_of_some _ e) (Heap.get?_push_size _ rfl) fun s' t' hm => ?_⟩
  exact hQ s' t' (hm.drop_new (by first | exact Nat.le_refl _ | exact Nat.le_succ _ | omega))
end
end Mine
end
-- part B6
section
open PySem PySem.W PyProof.Rows
set_option maxRecDepth 100000
namespace Mine
section
local macro_rules | `(tactic| k_inst) => `(tactic| (refine' acc_inst ?N ?h1 ?h2; (case N => k_asm); (case h1 => k_mem); (case h2 => k_mem)))
local macro_rules | `(tactic| walk_at "getMethod ref") => `(tactic| (k_here; k_dflt (first
  | (refine' super_method_bi (id := "list.__len__") ?k1 ?k2 ?k3 ?k4 ?k5 ?k6 ?k7 ty_len slot_wdget entry_wdget args_wdget ?k9 (boundObj "method-wrapper" "list.__len__" _) rfl (fun _ _ _ _ q => wdget_len (acc_isList (Frag.In.keeps (by k_asm) (Fr.keep (by k_asm))) (by k_inst) (by k_is)) q) ?_; (case k1 => k_asm); (case k2 => k_asm); (case k3 => k_asm); (case k4 => k_mem); (case k5 => k_inst); (case k6 => k_is); (case k7 => ks_is); (case k9 => decide); intro q' h' F' N' l1; (try k_lt l1))
  | (refine' super_method_bi (id := "list.__init__") ?k1 ?k2 ?k3 ?k4 ?k5 ?k6 ?k7 ty_init slot_wdget entry_wdget args_wdget ?k9 (boundObj "method-wrapper" "list.__init__" _) rfl (fun _ _ _ _ q => wdget_init (acc_isList (Frag.In.keeps (by k_asm) (Fr.keep (by k_asm))) (by k_inst) (by k_is)) q) ?_; (case k1 => k_asm); (case k2 => k_asm); (case k3 => k_asm); (case k4 => k_mem); (case k5 => k_inst); (case k6 => k_is); (case k7 => ks_is); (case k9 => decide); intro q' h' F' N' l1; (try k_lt l1))
  | (refine' super_method_bi (id := "list.pop") ?k1 ?k2 ?k3 ?k4 ?k5 ?k6 ?k7 ty_pop slot_mdget entry_mdget args_mdget ?k9 (boundObj "builtin_function_or_method" "list.pop" _) rfl (fun _ _ _ _ q => mdget_pop (acc_isList (Frag.In.keeps (by k_asm) (Fr.keep (by k_asm))) (by k_inst) (by k_is)) q) ?_; (case k1 => k_asm); (case k2 => k_asm); (case k3 => k_asm); (case k4 => k_mem); (case k5 => k_inst); (case k6 => k_is); (case k7 => ks_is); (case k9 => decide); intro q' h' F' N' l1; (try k_lt l1)))))
local macro_rules | `(tactic| walk_at "callWith ref") => `(tactic| (k_here; k_dflt (refine' callWith_bound (T := "method-wrapper") ?k1 (by decide) (by decide) ?_; (case k1 => exact (News.get (by k_asm) (by k_mem))))))
local macro_rules | `(tactic| walk_at "callWith ref") => `(tactic| (k_here; k_dflt (refine' callWith_bound (T := "builtin_function_or_method") ?k1 (by decide) (by decide) ?_; (case k1 => exact (News.get (by k_asm) (by k_mem))))))
local macro_rules | `(tactic| walk_at "getAttr ref") => `(tactic| (k_here; k_dflt (refine' get_ownL ?k1 ?k2 ?k3 ?k4 ?k5 ?k6 ?k7 ?k8 ?k9 ?k10 ?k11 ?_; (case k1 => k_asm); (case k2 => k_asm); (case k3 => k_inst); (case k4 => k_is); (case k5 => k_is); (case k6 => k_is); (case k7 => k_is); (case k8 => k_is); (case k9 => k_is); (case k10 => first | k_get | exact rfl); (case k11 => exact rfl))))

theorem gen_local {M : Model} {A : Around} {E : Value → Shared → Prop} {s : Shared} {scope : Scope} {cl : List (Str × Addr)} {C bi : Addr} {code : Value} {env : Env} {x : Str} {pos : Pos} {v : Value} {h : Heap} {m₂ : Str → Option Value} {Q : Value → Shared → Prop}
    (hn : h.Ns C m₂) (he : s.heap = h) (hv : m₂ x = some v) (hk : scope.kind = .function) (hl : scope.names.lookup x = some .local) (hd : (x == ("__debug__" : Str)) = false) (hq : Q v s) : wpAny M A (eval (.Name x pos) (genEnv scope cl C code bi env)) Q E s := by
  subst he
  exact wpAny_Name (wpAny_loadName_local hk hl hn hv hq) hd
theorem gen_builtin {M : Model} {A : Around} {E : Value → Shared → Prop} {s : Shared} {K : Frag} {scope : Scope} {cl : List (Str × Addr)} {C : Addr} {code : Value} {env : Env} {x : Str} {pos : Pos} {v : Value} {h₀ h : Heap} {p : Program} {loose : List Str} {mean : ExcName → Option Value} {mg mb : Str → Option Value} {Q : Value → Shared → Prop}
    (T : Top p loose mean mg mb h₀) (X : K.In h₀) (k : ∀ b o, h₀.get? b = some o → h.get? b = some o) (he : s.heap = h) (hG : env.globals = mainGlobals) (e : nsIn K mainGlobals x = some none) (hv : bootBuiltins x = some v) (hn : x ≠ "__name__") (hk : scope.kind = .function) (hl : scope.names.lookup x = some .globalImplicit) (hd : (x == ("__debug__" : Str)) = false) (hq : Q v s) :
    wpAny M A (eval (.Name x pos) (genEnv scope cl C code builtinsNs env)) Q E s := by
  subst he
  have TR := topRead_of T
  exact Calls.Name_function_global hk hl (Calls.loadGlobal_builtin (show s.heap.Ns env.globals mg from hG ▸ (TR.g.keeps k)) (mg_none_of X TR.g e) (TR.b.keeps k) ((TR.builtins x hn).trans hv) hq) hd

section
local macro_rules | `(tactic| walk_at "eval Name") => `(tactic| first
  | (refine gen_local (by assumption) rfl (by assumption) (by assumption) (by assumption) (by decide) ?_)
  | (k_dflt (refine' gen_builtin (by assumption) (by assumption) (by assumption) rfl (by assumption) ?ke rfl (by decide) (by assumption) (by assumption) (by decide) ?_; (case ke => k_is))))
set_option maxRecDepth 100000 in
set_option maxHeartbeats 8000000 in
theorem elt_len (w : World) {A : Around} {E : Value → Shared → Prop} {s : Shared} {scope : Scope} {C : Addr} {code : Value} {env : Env} {p1 p2 p3 p4 p5 p6 p7 : Pos} {a b : Str} {ta tb : Tok} {h₀ : Heap} {p : Program} {loose : List Str} {mean : ExcName → Option Value} {mg mb m₂ : Str → Option Value}
    (T : Top p loose mean mg mb h₀) (X : (Mine.hd.heap_1 w.params).In h₀) (k : ∀ b o, h₀.get? b = some o → s.heap.get? b = some o) (hG : env.globals = mainGlobals) (hk : scope.kind = .function)
    (hl0 : scope.names.lookup (Str.ofString "len") = some .globalImplicit) (hl1 : scope.names.lookup (Str.ofString "fws") = some .local) (hl2 : scope.names.lookup (Str.ofString "part") = some .local)
    (hn : s.heap.Ns C m₂) (h1 : m₂ (Str.ofString "fws") = some (.str a ta)) (h2 : m₂ (Str.ofString "part") = some (.str b tb)) (ha : a.length ≤ 1000) (hb : b.length ≤ 1000) :
    wpAny (model PySem.Challenge.pw_tr0044_01 w) A (eval (.BinOp (.Call (.Name (Str.ofString "len") p1) [.Name (Str.ofString "fws") p2] [] p3) .Add (.Call (.Name (Str.ofString "len") p4) [.Name (Str.ofString "part") p5] [] p6) p7) (genEnv scope [] C code builtinsNs env))
      (fun y s' => (∃ t, y = .int ((a.length + b.length : Nat) : Int) t) ∧ Keeps s s') E s := by
  have fill : PySem.Challenge.rw_tr0044_01 = PySem.Challenge.rw_tr0044_01 ∧ Mine.hd.heap_1 = Mine.hd.heap_1 := by
    k_fill
    exact ⟨rfl, rfl⟩
  clear fill
  k_with_none
  refine wpAny_BinOp ?_
  k_steps
  exact ⟨s.heap, _, rfl, fun _ _ e => e⟩
end
local macro_rules | `(tactic| walk_at "eval GeneratorExp") => `(tactic| (refine HoldI.mk ?_))
local macro_rules | `(tactic| walk_at "call builtin:sum") => `(tactic| (refine HoldI.mk ?_))
set_option maxRecDepth 100000 in
set_option maxHeartbeats 8000000 in
theorem len82_c (w : World) (P dx : Addr) (items : Array Value) (n : Nat) (hs : Int) (tkx t0 : Tok) (ps : Array Value) (rest : List (Addr × Obj)) (ls : Nat → Nat) (ht : TriplesOk ps.toList) (hr : ∀ p ∈ rest, p.1 ≠ 77) (hP : P ≠ 77) (hdx : dx ≠ 77)
    (hit : ∀ j, j < items.size → ∃ T a b ta tb, items[j]? = some (.ref T) ∧ (T, { cls := .type "tuple", data := .seq #[.str a ta, .str b tb] }) ∈ rest ∧ a.length + b.length = ls j ∧ a.length ≤ 1000 ∧ b.length ≤ 1000) :
    CtrQ 4 w 82 [.ref P] (fun h₀ L m h => CodeHd h₀ 81 77 ∧ News h₀ L h ((P, accObj 115 dx items n) :: (dx, accD hs tkx t0) :: (77, tabObj ps) :: rest))
      (fun Q h₀ L m s => AllBare s.gens ∧ ∀ (t : Tok) (h' : Heap) (g' : Array GenState) (tk' : Nat) (ps' : Array Value), Fr h₀ L h' m → News h₀ L h' ((P, accObj 115 dx items n) :: (dx, accD hs tkx t0) :: (77, tabObj ps') :: rest) → TriplesOk ps'.toList → AllBare g' →
        Q (.int (preSum (fun j => (ls j : Int)) items.size) t) { s with heap := h', gens := g', toks := tk' }) := by
  unfold CtrQ
  intro pgm loose mean mg mb dp un gd cn cs a ccd cl outer A₀ base h₀ L m s Q E B F X N T hk hd hu hret
  obtain ⟨CH, N⟩ := N
  obtain ⟨G, hret⟩ := hret
  have fill : PySem.Challenge.rw_tr0044_01 = PySem.Challenge.rw_tr0044_01 ∧ Mine.hd.heap_1 = Mine.hd.heap_1 := by
    k_fill
    exact ⟨rfl, rfl⟩
  clear fill
  refine wpAny_call ?_
  k_dflt (refine' code_def ?k1 ?k2 ?k3 ?k4 ?k5 ?kA ?kF ?kK ?k6 ?k7 ?k8 ?k9 ?kB ?_ ?c2 ?c3 ?c4 ?c5; (case kA => exact rfl); (case kF => exact rfl); (case kK => first | exact rfl | assumption); (case k1 => k_asm); (case k2 => k_asm); (case k3 => k_asm); (case k4 => k_asm); (case k5 => k_asm); (case k6 => k_is); (case k7 => k_is); (case k8 => ktr_room); (case k9 => exact BindsTo.of_eq rfl); (case c5 => decide); (case kB => exact locs rfl); (case c2 => exact rfl); (case c3 => exact rfl); (case c4 => exact rfl); k_whole; intro g' L' h' FG' F' N' B' X' T'; (try dsimp only); (try k_lift B'); (try k_fold))
  k_with_none
  k_steps
  unfold HoldI
  rename Fr _ _ _ _ => F9
  rename News _ _ _ _ => N9
  rename Frag.In _ _ => X9
  rename Top _ _ _ _ _ _ => T9
  have CH9 : CodeHd _ 81 77 := CH.keeps (Fr.keep (by assumption))
  have N2 : News _ _ _ ((77, tabObj ps) :: (P, accObj 115 dx items n) :: (dx, accD hs tkx t0) :: rest) := fun p hp => N9 p (by
    rcases List.mem_cons.mp hp with h | hp
    · exact .tail _ (.tail _ (h ▸ .head _))
    · rcases List.mem_cons.mp hp with h | hp
      · exact h ▸ .head _
      · rcases List.mem_cons.mp hp with h | hp
        · exact .tail _ (h ▸ .head _)
        · exact .tail _ (.tail _ (.tail _ hp)))
  have hP2 : ∀ q ∈ (P, accObj 115 dx items n) :: (dx, accD hs tkx t0) :: rest, q.1 ≠ 77 := by
    intro q hq
    rcases List.mem_cons.mp hq with h | hq
    · rw [h]; exact hP
    · rcases List.mem_cons.mp hq with h | hq
      · rw [h]; exact hdx
      · exact hr q hq
  k_dflt (refine' gen_acc (c := 81) (P := 77) (Cc := 115) (F := fun i y => ∃ t, y = .int (ls i : Int) t) (Pv := fun i va vb => ∃ a b ta tb, va = .str a ta ∧ vb = .str b tb ∧ a.length + b.length = ls i ∧ a.length ≤ 1000 ∧ b.length ≤ 1000) F9 X9 T9 CH9 N2 hP2 ht rfl rfl G (.head _) (.tail _ (.head _)) ?ki ?km ?kit (fun Q' q => ld F9 rfl q) ?kh rfl rfl (by decide) rfl rfl rfl (by decide) rfl ?kr ?kq ?kQ ?ks; (case ki => k_is); (case km => k_is))
  case kit =>
    intro j hj
    obtain ⟨T, a, b, ta, tb, e, hm, r⟩ := hit j hj
    exact ⟨T, _, _, e, .tail _ (.tail _ hm), a, b, ta, tb, rfl, rfl, r⟩
  case kh => rfl
  case kr => ktr_room
  case ks => intro x; rfl
  case kq =>
    intro code C' A' E' i va vb s₂ m₂ hA hi hp hn h1 h2 hk
    obtain ⟨a, b, ta, tb, rfl, rfl, e, ha, hb⟩ := hp
    refine wpAny_mono (elt_len w T9 X9 hk rfl rfl rfl rfl rfl hn h1 h2 ha hb) (fun y s' z => ⟨?_, z.2⟩) (fun _ _ e => e)
    obtain ⟨⟨t, rfl⟩, _⟩ := z
    exact ⟨t, by rw [← e]⟩
  intro a h' g' tk' ps' F' N' T' G' Z
  k_steps
  unfold HoldI
  obtain ⟨fp, wr, gg, St, W, hst, hfp, hwr⟩ := Z
  have W1 := W.in4_1
  have hst' := W1.frame 0 _ h' (tk' + 1) hst (Nat.le_succ _) (fun _ _ _ e => e)
  have hL := F9.ns.lt
  have hlt : ∀ q ∈ (77, tabObj ps') :: (P, accObj 115 dx items n) :: (dx, accD hs tkx t0) :: rest, q.1 ∉ wr := by
    intro q hq hm
    refine Nat.not_lt.mpr (hwr _ hm) ?_
    rcases List.mem_cons.mp hq with h | hq
    · rw [h]; exact Heap.lt_size (N2 _ (.head _)).1
    · exact Heap.lt_size (N2 q (.tail _ hq)).1
  refine call_sum2 (W1.self 0 _ _ _ hst' ⟨a, fp, wr, _, _, _, _, (fun j => (ls j : Int)), rfl, W1, hst', hfp, fun i v hv => hv, fun s' t' hm => ?_⟩)
  obtain ⟨h6, g6, d6, tk6, os6⟩ := s'
  have e1 := hm.drawn
  have e2 := hm.os
  dsimp only at e1 e2
  subst e1 e2
  have F6 := Fr.moved F' hm (fun b hb => Nat.lt_of_lt_of_le hL (hwr b hb))
  have N6 : News _ _ h6 ((77, tabObj ps') :: (P, accObj 115 dx items n) :: (dx, accD hs tkx t0) :: rest) := fun q hq => ⟨hm.heap _ _ (hlt q hq) (N' q hq).1, (N' q hq).2⟩
  have G6 : AllBare g6 := G'.movedS hm
  clear N' F' hm hst' hst
  k_steps
  rename News _ _ _ _ => N9
  exact hret _ _ _ _ _ (by k_asm) (fun p hp => N9 p (by
    rcases List.mem_cons.mp hp with h | hp
    · exact .tail _ (h ▸ .head _)
    · rcases List.mem_cons.mp hp with h | hp
      · exact .tail _ (.tail _ (h ▸ .head _))
      · rcases List.mem_cons.mp hp with h | hp
        · exact h ▸ .head _
        · exact .tail _ (.tail _ (.tail _ hp)))) T' G6
end
end Mine
end
-- part B7
section
set_option maxRecDepth 100000
set_option maxHeartbeats 1000000
open PySem PySem.W PySem.Calls PyProof.Rows
namespace Mine
abbrev CtrV (d : Nat) (w : World) (fv : Value) (vs : List Value) (P : Heap → Addr → (Str → Option Value) → Heap → Prop) (Z : (Value → Shared → Prop) → Heap → Addr → (Str → Option Value) → Shared → Prop) : Prop :=
  ∀ (p : Program) (loose : List Str) (mean : ExcName → Option Value) (mg mb : Str → Option Value) (dp un : Nat) (gd : Option (List Code)) (cn : Str) (cs : Scope) (a : Addr) (ccd : Value) (cl : List (Str × Addr)) (outer : List Env) (A₀ : Around) (base h₀ : Heap) (L : Addr) (m : Str → Option Value) (s : Shared) (Q E : Value → Shared → Prop),
    Below A₀ base outer h₀ → Fr h₀ L s.heap m → (Mine.hd.heap_1 w.params).In h₀ → P h₀ L m s.heap → Top p loose mean mg mb h₀ → cs.kind = .function →
    dp + d < recursionLimit → un + 8 * d < cLine → Z Q h₀ L m s →
      wpAny (model PySem.Challenge.pw_tr0044_01 w) (ktrTop dp un gd cn cs L a ccd cl outer) (call fv vs) Q E s
theorem preSum_le (f : Nat → Int) (h0 : ∀ j, 0 ≤ f j) (hb : ∀ j, f j ≤ 2000) : ∀ n : Nat, 0 ≤ preSum f n ∧ preSum f n ≤ 2000 * n
  | 0 => ⟨Int.le_refl _, by show (0 : Int) ≤ _; omega⟩
  | n + 1 => by
    have ih := preSum_le f h0 hb n
    have e : preSum f (n + 1) = preSum f n + f n := rfl
    have a := h0 n
    have b := hb n
    rw [e]
    omega
theorem len_c (w : World) (P dx : Addr) (items : Array Value) (n : Nat) (hs : Int) (tkx t0 : Tok) (ps : Array Value) (rest : List (Addr × Obj)) (ls : Nat → Nat) (ht : TriplesOk ps.toList) (hr : ∀ p ∈ rest, p.1 ≠ 77) (hP : P ≠ 77) (hdx : dx ≠ 77) (hz : items.size ≤ 1000) (hls : ∀ j, ls j ≤ 2000)
    (hit : ∀ j, j < items.size → ∃ T a b ta tb, items[j]? = some (.ref T) ∧ (T, { cls := .type "tuple", data := .seq #[.str a ta, .str b tb] }) ∈ rest ∧ a.length + b.length = ls j ∧ a.length ≤ 1000 ∧ b.length ≤ 1000) :
    CtrV 5 w (.builtin "len") [.ref P] (fun h₀ L m h => CodeHd h₀ 81 77 ∧ News h₀ L h ((P, accObj 115 dx items n) :: (dx, accD hs tkx t0) :: (77, tabObj ps) :: rest))
      (fun Q h₀ L m s => AllBare s.gens ∧ ∀ (t : Tok) (h' : Heap) (g' : Array GenState) (tk' : Nat) (ps' : Array Value), Fr h₀ L h' m → News h₀ L h' ((P, accObj 115 dx items n) :: (dx, accD hs tkx t0) :: (77, tabObj ps') :: rest) → TriplesOk ps'.toList → AllBare g' →
        Q (.int (preSum (fun j => (ls j : Int)) items.size) t) { s with heap := h', gens := g', toks := tk' }) := by
  intro pgm loose mean mg mb dp un gd cn cs a ccd cl outer A₀ base h₀ L m s Q E B F X N T hk hd hu hret
  have fill : PySem.Challenge.rw_tr0044_01 = PySem.Challenge.rw_tr0044_01 ∧ Mine.hd.heap_1 = Mine.hd.heap_1 := by
    k_fill
    exact ⟨rfl, rfl⟩
  clear fill
  have I := acc_inst N.2 (.head _) (.tail _ (.head _))
  refine len_K (f := 82) F X I ?k1 ?k2 ?_
  case k1 => k_is
  case k2 => k_is
  refine len82_c w P dx items n hs tkx t0 ps rest ls ht hr hP hdx hit pgm loose mean mg mb dp (un + 1) gd cn cs a ccd cl outer A₀ base h₀ L m s _ E B F X N T hk (Nat.lt_of_le_of_lt (Nat.add_le_add_left (by decide) _) hd) (by omega) ⟨hret.1, fun t h' g' tk' ps' F' N' T' G' => ?_⟩
  have hb := preSum_le (fun j => (ls j : Int)) (fun j => Int.natCast_nonneg _) (fun j => by have := hls j; omega) items.size
  exact ⟨⟨hb.1, by omega⟩, hret.2 _ h' g' _ ps' F' N' T' G'⟩
def GwEnd {σ : Type} (h₀ : Heap) (L : Addr) (s : Shared) (Led : σ → List (Addr × Obj)) (ps : σ → List (Str × Value)) (stored : List Str) (m₀ : Str → Option Value) (P : σ → Prop) (μ : σ → Nat) (c : σ) (s₂ : Shared) : Prop :=
  ∃ (c' : σ) (h' : Heap) (g' : Array GenState) (tk : Nat) (m' : Str → Option Value) (news' : List (Addr × Obj)), s₂ = { s with heap := h', gens := g', toks := tk } ∧ AllBare g' ∧ Fr h₀ L h' m' ∧ News h₀ L h' news' ∧ (∀ p ∈ Led c', p ∈ news') ∧ (∀ p ∈ ps c', m' p.1 = some p.2) ∧ (∀ z, (∀ p ∈ ps c', z ≠ p.1) → stored.contains z = false → m' z = m₀ z) ∧ P c' ∧ μ c' < μ c
def GwPost {σ : Type} (h₀ : Heap) (L : Addr) (s : Shared) (Led : σ → List (Addr × Obj)) (ps : σ → List (Str × Value)) (stored : List Str) (m₀ : Str → Option Value) (P : σ → Prop) (μ : σ → Nat) (Q : Flow → Shared → Prop) (c : σ) (f : Flow) (s₂ : Shared) : Prop :=
  match f with
  | .ret v => Q (.ret v) s₂
  | .brk => Q .next s₂
  | _ => GwEnd h₀ L s Led ps stored m₀ P μ c s₂
theorem gw_end {σ : Type} {h₀ : Heap} {L : Addr} {s : Shared} {Led : σ → List (Addr × Obj)} {ps : σ → List (Str × Value)} {stored : List Str} {m₀ m' : Str → Option Value} {P : σ → Prop} {μ : σ → Nat} {c : σ} {h' : Heap} {g' : Array GenState} {tk : Nat} {news' : List (Addr × Obj)} (c' : σ)
    (G : AllBare g') (F : Fr h₀ L h' m') (N : News h₀ L h' news') (hn : ∀ p ∈ Led c', p ∈ news') (hk : ∀ p ∈ ps c', m' p.1 = some p.2) (hr : ∀ z, (∀ p ∈ ps c', z ≠ p.1) → stored.contains z = false → m' z = m₀ z) (hp : P c') (hm : μ c' < μ c) :
    GwEnd h₀ L s Led ps stored m₀ P μ c { s with heap := h', gens := g', toks := tk } := ⟨c', h', g', tk, m', news', rfl, G, F, N, hn, hk, hr, hp, hm⟩
section
variable {prog : Program} {w : World} {A : Around} {E : Value → Shared → Prop} {Q : Flow → Shared → Prop} {s : Shared} {env : Env} {h₀ : Heap} {L : Addr}
theorem gw_while {σ : Type} {test : Expr} {body : List Stmt} {pos : Pos} {m₀ : Str → Option Value} (Led : σ → List (Addr × Obj)) (ps : σ → List (Str × Value)) (stored : List Str) (P : σ → Prop) (μ : σ → Nat) (c₀ : σ)
    (G : AllBare s.gens) (F : Fr h₀ L s.heap m₀) (N : News h₀ L s.heap (Led c₀)) (hk : ∀ p ∈ ps c₀, m₀ p.1 = some p.2) (hp : P c₀)
    (turn : ∀ (c : σ) (u : Str → Option Value) h g tk, P c → AllBare g → Fr h₀ L h (kstB (fun z => if stored.contains z then u z else m₀ z) (ps c)) → News h₀ L h (Led c) →
      wpAny (model prog w) A (isTrue test env (eval test env)) (fun b s₂ =>
        if b = true then wpAny (model prog w) A (execs body env) (GwPost h₀ L s Led ps stored m₀ P μ Q c) E s₂ else Q .next s₂) E { s with heap := h, gens := g, toks := tk })
    (hE : PassesOwn (model prog w) A env E := by passes_own) :
    wpAny (model prog w) A (exec (.While test body [] pos) env) Q E s := by
  refine wpAny_While (codeAny_whileLoop (fun n s' => ∃ (c : σ) (h : Heap) (g : Array GenState) (tk : Nat) (m₁ : Str → Option Value), s' = { s with heap := h, gens := g, toks := tk } ∧ μ c = n ∧ AllBare g ∧ Fr h₀ L h m₁ ∧ News h₀ L h (Led c) ∧ (∀ p ∈ ps c, m₁ p.1 = some p.2) ∧ (∀ z, (∀ p ∈ ps c, z ≠ p.1) → stored.contains z = false → m₁ z = m₀ z) ∧ P c) ?_ (μ c₀) ⟨c₀, s.heap, s.gens, s.toks, m₀, rfl, rfl, G, F, N, hk, fun _ _ _ => rfl, hp⟩)
  rintro n s' ⟨c, h, g, tk, m₁, rfl, rfl, G₁, F₁, N₁, h1, h2, hp'⟩
  refine wpAny_mono (turn c m₁ h g tk hp' G₁ (ksw_fr h1 h2 F₁) N₁) (fun b s₂ h₂ => ?_) hE
  cases b with
  | false =>
    simp only [Bool.false_eq_true, if_false] at h₂ ⊢
    exact wpAny_execs_nil h₂
  | true =>
    simp only [if_true] at h₂ ⊢
    refine wpAny_mono h₂ (fun f s₃ h₃ => ?_) hE
    cases f with
    | ret v => exact h₃
    | brk => exact h₃
    | next =>
      obtain ⟨c', h', g', tk', m', news', rfl, G', F', N', hn, hk', hr', hp', hm⟩ := h₃
      exact ⟨μ c', hm, c', h', g', tk', m', rfl, rfl, G', F', fun p hp => N' p (hn p hp), hk', hr', hp'⟩
    | cont =>
      obtain ⟨c', h', g', tk', m', news', rfl, G', F', N', hn, hk', hr', hp', hm⟩ := h₃
      exact ⟨μ c', hm, c', h', g', tk', m', rfl, rfl, G', F', fun p hp => N' p (hn p hp), hk', hr', hp'⟩
end
end Mine
end
-- part C2
section
open PySem PySem.W PyProof.Rows
namespace Mine
section
local macro_rules | `(tactic| walk_at "binaryOp LShift int int") => `(tactic| (k_here; (with_reducible refine lshift_int ?kbn ?kbs ?_); (case kbn => omega); (case kbs => (try rw [show Builtin.Int.intBits 1 = 1 from rfl]); omega)))
local macro_rules | `(tactic| walk_at "exec While Compare cons nil") => `(tactic| (k_while_given ["n!", "q"] (fun n₀ q script out n => 0 ≤ out ∧ 0 ≤ n ∧ Builtin.Int.intBits n ≤ 100000 ∧ quotAI out n q = quotI n₀ q) (fun n₀ q script out n => Builtin.Int.intBits n) "out" "n"))
set_option maxRecDepth 100000 in
set_option maxHeartbeats 8000000 in
theorem quot_c (w : World) (n q : Int) (t u : Tok) : Ctr 2 w 150 (0 ≤ n ∧ Builtin.Int.intBits n ≤ 100000 ∧ 0 < q) [.int n t, .int q u] (fun t => .int (quotI n q) t) := by
  unfold Ctr
  intro pgm loose mean mg mb dp un gd cn cs a ccd cl outer A₀ base h₀ L m news s Q E B F X N T hk hpre hd hu hret
  obtain ⟨hn, hb, hq⟩ := hpre
  dsimp only [CbRet] at hret
  have fill : PySem.Challenge.rw_tr0044_01 = PySem.Challenge.rw_tr0044_01 ∧ Mine.hd.heap_1 = Mine.hd.heap_1 := by
    k_fill
    exact ⟨rfl, rfl⟩
  clear fill
  refine wpAny_call ?_
  k_dflt cell_enter
  k_with_none
  k_with "state" => first | exact quot_start (by assumption) (by assumption) | exact quot_state (by assumption) (by assumption) (by assumption) (by assumption) (by assumption) (by assumption)
  k_with "measure" => exact (rest_step (by assumption) (by assumption) (by assumption)).2.1
  k_steps
  exact cb_retI hret ((quot_end (by assumption) (by assumption) (by assumption) (by assumption)).symm.trans (by assumption)) (by k_asm) (by k_asm)
end
end Mine
end
-- part C4
section
open PySem PySem.W PyProof.Rows
namespace Mine
section
set_option maxRecDepth 100000 in
set_option maxHeartbeats 8000000 in
theorem iseof_c (w : World) (x : Int) (t : Tok) : Ctr 2 w 136 True [.int x t] (fun _ => .bool (x == 0)) := by
  unfold Ctr
  intro pgm loose mean mg mb dp un gd cn cs a ccd cl outer A₀ base h₀ L m news s Q E B F X N T hk hpre hd hu hret
  skip
  dsimp only [CbRet] at hret
  have fill : PySem.Challenge.rw_tr0044_01 = PySem.Challenge.rw_tr0044_01 ∧ Mine.hd.heap_1 = Mine.hd.heap_1 := by
    k_fill
    exact ⟨rfl, rfl⟩
  clear fill
  refine wpAny_call ?_
  k_dflt cell_enter
  k_with_none
  k_steps
  exact cb_retB hret rfl (by k_asm) (by k_asm)
set_option maxRecDepth 100000 in
set_option maxHeartbeats 8000000 in
theorem isnon_c (w : World) (x : Int) (t : Tok) : Ctr 2 w 129 True [.int x t] (fun _ => .bool (decide (256 ≤ x))) := by
  unfold Ctr
  intro pgm loose mean mg mb dp un gd cn cs a ccd cl outer A₀ base h₀ L m news s Q E B F X N T hk hpre hd hu hret
  skip
  dsimp only [CbRet] at hret
  have fill : PySem.Challenge.rw_tr0044_01 = PySem.Challenge.rw_tr0044_01 ∧ Mine.hd.heap_1 = Mine.hd.heap_1 := by
    k_fill
    exact ⟨rfl, rfl⟩
  clear fill
  refine wpAny_call ?_
  k_dflt cell_enter
  k_with_none
  k_steps
  exact cb_retB hret rfl (by k_asm) (by k_asm)
end
end Mine
end
-- part B8
section
set_option maxRecDepth 100000
set_option maxHeartbeats 1000000
open PySem PySem.W PySem.Calls PyProof.Rows
namespace Mine
def signOf (p k : Nat) : Str := if p / 2 ^ k % 2 = 1 then Str.ofString "-" else Str.ofString "+"
def wordOf (p : Nat) : Str := Txt.join (Str.ofString "") ((List.range (bitsN p - 1)).map (signOf p))
abbrev PEnt := Addr × Nat × Tok × Tok
abbrev tupE (e : PEnt) : Addr × Obj := (e.1, { cls := .type "tuple", data := .seq #[.str (Str.ofString "") e.2.2.1, .str (wordOf e.2.1) e.2.2.2] })
def sumL : List Nat → Nat
  | [] => 0
  | p :: r => (bitsN p - 1) + sumL r
def runP (deg : Nat) : Nat → Nat → Nat → List Nat → Option (List Nat)
  | 0, _, _, _ => none
  | k + 1, left, trial, ws => if sumL ws < deg then
      if trial = 0 ∨ 512 ≤ trial ∨ left = 0 ∨ 512 ≤ left ∨ 8 < ws.length then none
      else if rest left trial = 0 then runP deg k (quot left trial) trial (ws ++ [trial])
      else if bitsN left - 1 < 2 * (bitsN trial - 1) then runP deg k left left ws
      else runP deg k left (trial + 2) ws
    else some ws
def primesOf (whole : Nat) : Option (List Nat) := runP (bitsN whole - 1) 2000 whole 3 []
structure PS where
  left : Nat
  tl : Tok
  trial : Nat
  tt : Tok
  ob : Obj
  ent : List PEnt
  n : Nat
  ps : Array Value
  k : Nat
abbrev pItems (ent : List PEnt) : Array Value := (ent.map fun e => Value.ref e.1).toArray
abbrev PLed (P dx : Addr) (hs : Int) (tk t0 : Tok) (cT : Addr) (rest : List (Addr × Obj)) (c : PS) : List (Addr × Obj) :=
  (P, accObj 115 dx (pItems c.ent) c.n) :: (dx, accD hs tk t0) :: (77, tabObj c.ps) :: (cT, c.ob) :: (c.ent.map tupE ++ rest)
def PInv (P : Addr) (deg : Nat) (final : List Nat) (c : PS) : Prop :=
  c.ob.data = .cell (some (.int (c.trial : Int) c.tt)) ∧ TriplesOk c.ps.toList ∧ runP deg c.k c.left c.trial (c.ent.map fun e => e.2.1) = some final ∧ (∀ e ∈ c.ent, @LT.lt Nat _ P e.1) ∧ (∀ e ∈ c.ent, e.2.1 < 512) ∧ c.ent.length ≤ 9
theorem restI_cast (a b : Nat) : restI (a : Int) (b : Int) = ((rest a b : Nat) : Int) := by simp [restI]
theorem quotI_cast (a b : Nat) : quotI (a : Int) (b : Int) = ((quot a b : Nat) : Int) := by simp [quotI]
theorem wordOf_length : ∀ p < 512, (wordOf p).length = bitsN p - 1 := by decide +kernel
theorem bits_512 : ∀ p < 512, bitsN p ≤ 9 := by decide +kernel
def lsOf (ent : List PEnt) (j : Nat) : Nat := match ent[j]? with | some e => bitsN e.2.1 - 1 | none => 0
theorem preSum_shift (f : Nat → Int) : ∀ n : Nat, preSum f (n + 1) = f 0 + preSum (fun j => f (j + 1)) n
  | 0 => by show (0 : Int) + f 0 = f 0 + 0; omega
  | n + 1 => by
    have ih := preSum_shift f n
    have e1 : preSum f (n + 1 + 1) = preSum f (n + 1) + f (n + 1) := rfl
    have e2 : preSum (fun j => f (j + 1)) (n + 1) = preSum (fun j => f (j + 1)) n + f (n + 1) := rfl
    rw [e1, ih, e2]; omega
theorem preSum_ls : ∀ ent : List PEnt, preSum (fun j => (lsOf ent j : Int)) ent.length = ((sumL (ent.map fun e => e.2.1) : Nat) : Int)
  | [] => rfl
  | e :: r => by
    rw [List.length_cons, preSum_shift]
    have h1 : (fun j => (lsOf (e :: r) (j + 1) : Int)) = fun j => (lsOf r j : Int) := rfl
    rw [h1, preSum_ls r]
    show ((bitsN e.2.1 - 1 : Nat) : Int) + _ = ((bitsN e.2.1 - 1 + sumL (r.map fun e => e.2.1) : Nat) : Int)
    omega
theorem items_size (ent : List PEnt) : (pItems ent).size = ent.length := by simp [pItems]
theorem preSum_items (ent : List PEnt) : preSum (fun j => (lsOf ent j : Int)) (pItems ent).size = ((sumL (ent.map fun e => e.2.1) : Nat) : Int) := by rw [items_size, preSum_ls]
theorem ls_le {ent : List PEnt} (h : ∀ e ∈ ent, e.2.1 < 512) (j : Nat) : lsOf ent j ≤ 2000 := by
  unfold lsOf
  split
  · rename_i e he
    have := bits_512 _ (h _ (List.mem_of_getElem? he))
    omega
  · omega
theorem ls_hit {ent : List PEnt} {rest : List (Addr × Obj)} (h : ∀ e ∈ ent, e.2.1 < 512) (j : Nat) (hj : j < (pItems ent).size) :
    ∃ T a b ta tb, (pItems ent)[j]? = some (.ref T) ∧ (T, { cls := .type "tuple", data := .seq #[.str a ta, .str b tb] }) ∈ ent.map tupE ++ rest ∧ a.length + b.length = lsOf ent j ∧ a.length ≤ 1000 ∧ b.length ≤ 1000 := by
  rw [items_size] at hj
  have e0 : ent[j]? = some ent[j] := List.getElem?_eq_getElem hj
  have hm := List.getElem_mem hj
  have hl := wordOf_length _ (h _ hm)
  have hb := bits_512 _ (h _ hm)
  refine ⟨ent[j].1, Str.ofString "", wordOf ent[j].2.1, ent[j].2.2.1, ent[j].2.2.2, by simp [pItems, e0], List.mem_append_left _ (List.mem_map.mpr ⟨_, hm, rfl⟩), ?_, by decide, by omega⟩
  unfold lsOf
  rw [e0]
  show 0 + (wordOf ent[j].2.1).length = bitsN ent[j].2.1 - 1
  rw [hl]; omega
theorem ents_ne {P a : Addr} {ent : List PEnt} {rest : List (Addr × Obj)} (hgt : ∀ e ∈ ent, @LT.lt Nat _ P e.1) (hlt : @LE.le Nat _ a P) (hr : ∀ p ∈ rest, p.1 ≠ a) : ∀ p ∈ ent.map tupE ++ rest, p.1 ≠ a := by
  intro p hp
  rcases List.mem_append.mp hp with hp | hp
  · obtain ⟨e, he, rfl⟩ := List.mem_map.mp hp
    exact Nat.ne_of_gt (Nat.lt_of_le_of_lt hlt (hgt e he))
  · exact hr p hp
theorem runP_go {deg k left trial : Nat} {ws final : List Nat} (h : runP deg k left trial ws = some final) (hlt : sumL ws < deg) :
    ∃ k', k = k' + 1 ∧ (0 < trial ∧ trial < 512 ∧ 0 < left ∧ left < 512 ∧ ws.length ≤ 8) ∧ (rest left trial = 0 → runP deg k' (quot left trial) trial (ws ++ [trial]) = some final) ∧
      (rest left trial ≠ 0 → bitsN left - 1 < 2 * (bitsN trial - 1) → runP deg k' left left ws = some final) ∧ (rest left trial ≠ 0 → ¬ bitsN left - 1 < 2 * (bitsN trial - 1) → runP deg k' left (trial + 2) ws = some final) := by
  cases k with
  | zero => cases h
  | succ k =>
    rw [runP, if_pos hlt] at h
    split at h
    · cases h
    · rename_i q
      refine ⟨k, rfl, by omega, fun e => ?_, fun e e2 => ?_, fun e e2 => ?_⟩
      · rwa [if_pos e] at h
      · rwa [if_neg e, if_pos e2] at h
      · rwa [if_neg e, if_neg e2] at h
theorem runP_stop {deg k left trial : Nat} {ws final : List Nat} (h : runP deg k left trial ws = some final) (hlt : ¬ sumL ws < deg) : ws = final := by
  cases k with
  | zero => cases h
  | succ k =>
    rw [runP, if_neg hlt] at h
    exact Option.some.inj h
theorem bits_pos {n : Nat} (h : 0 < n) : 0 < bitsN n := by
  unfold bitsN
  rw [if_neg (by omega)]; omega
theorem kstB_out {m : Str → Option Value} {z : Str} : ∀ {ps : List (Str × Value)}, (∀ p ∈ ps, z ≠ p.1) → kstB m ps z = m z
  | [], _ => rfl
  | p :: r, h => by
    have h1 := h p (.head _)
    have h2 := kstB_out (m := m) (ps := r) fun q hq => h q (.tail _ hq)
    unfold kstB
    simp [h1, h2]
theorem bit_at (n k : Nat) : Builtin.bitAnd ((n : Int).fdiv (2 ^ k)) 1 = ((n / 2 ^ k % 2 : Nat) : Int) := by
  rw [bitAnd_m1]
  have e : ((n : Int).fdiv (2 ^ k)) = ((n / 2 ^ k : Nat) : Int) := by
    rw [show ((2 : Int) ^ k) = ((2 ^ k : Nat) : Int) by simp, Int.fdiv_eq_ediv_of_nonneg _ (Int.natCast_nonneg _)]
    rfl
  rw [e]; rfl
theorem sign_item (n k : Nat) : signOf n k = Txt.item (Str.ofString "+-") (Builtin.bitAnd ((n : Int).fdiv (2 ^ k)) 1) := by
  rw [bit_at]
  unfold signOf
  rcases Nat.mod_two_eq_zero_or_one (n / 2 ^ k) with h | h <;> rw [h] <;> decide +kernel
theorem sign_length (n k : Nat) : (signOf n k).length ≤ 1 := by
  unfold signOf
  split <;> decide +kernel
theorem word_eq (p n : Nat) : (rangeKs 0 n).map (fun k => signOf p k.toNat) = (List.range n).map (signOf p) := by
  unfold rangeKs
  rw [List.map_map]
  apply List.map_congr_left
  intro i _
  simp
theorem word_join (p : Nat) : Txt.join (Str.ofString "") ((rangeKs 0 (bitsN p - 1)).map fun k => signOf p k.toNat) = wordOf p := by rw [word_eq]; rfl
theorem pItems_push (ent : List PEnt) (e : PEnt) : pItems (ent ++ [e]) = (pItems ent).push (.ref e.1) := by simp [pItems]
theorem bit01 (a : Int) : 0 ≤ Builtin.bitAnd a 1 ∧ Builtin.bitAnd a 1 < 2 := by rw [bitAnd_m1]; omega
theorem push_end {h₀ : Heap} {L : Addr} {s : Shared} {P dx cT : Addr} {hs : Int} {tk t0 : Tok} {rst : List (Addr × Obj)} {m₀ m' : Str → Option Value} {deg : Nat} {final : List Nat} {left trial n k : Nat} {tt tl' ta tb : Tok} {ob : Obj} {ent : List PEnt} {ps1 : Array Value} {c : PS} {h' : Heap} {g' : Array GenState} {tk' : Nat} {T : Addr}
    (G : AllBare g') (F : Fr h₀ L h' m') (N : News h₀ L h' ((P, accObj 115 dx ((pItems ent).push (.ref T)) (n + 1)) :: (dx, accD hs tk t0) :: (T, { cls := .type "tuple", data := .seq #[.str (Str.ofString "") ta, .str (wordOf trial) tb] }) :: (77, tabObj ps1) :: (cT, ob) :: (ent.map tupE ++ rst)))
    (hk : m' (Str.ofString "left") = some (.int (left : Int) tl')) (hr : ∀ z, z ≠ Str.ofString "left" → m' z = m₀ z)
    (hob : ob.data = .cell (some (.int (trial : Int) tt))) (ht : TriplesOk ps1.toList) (hrun : runP deg k left trial (ent.map (fun e => e.2.1) ++ [trial]) = some final) (hgt : ∀ e ∈ ent, @LT.lt Nat _ P e.1) (hPT : @LT.lt Nat _ P T) (h512 : ∀ e ∈ ent, e.2.1 < 512) (htr : trial < 512) (hl : ent.length ≤ 8) (hm : k < c.k) :
    GwEnd h₀ L s (PLed P dx hs tk t0 cT rst) (fun c => [(Str.ofString "left", .int (c.left : Int) c.tl)]) [] m₀ (PInv P deg final) (fun c => c.k) c { s with heap := h', gens := g', toks := tk' } := by
  refine gw_end (⟨left, tl', trial, tt, ob, ent ++ [(T, trial, ta, tb)], n + 1, ps1, k⟩ : PS) G F N ?hn ?hkk ?hrr ⟨hob, ht, ?hq, ?hgt, ?h512, ?hl⟩ hm
  case hn =>
    intro p hp
    rcases List.mem_cons.mp hp with h | hp
    · rw [h, pItems_push]; exact .head _
    · rcases List.mem_cons.mp hp with h | hp
      · exact .tail _ (h ▸ .head _)
      · rcases List.mem_cons.mp hp with h | hp
        · exact .tail _ (.tail _ (.tail _ (h ▸ .head _)))
        · rcases List.mem_cons.mp hp with h | hp
          · exact .tail _ (.tail _ (.tail _ (.tail _ (h ▸ .head _))))
          · rcases List.mem_append.mp hp with hp | hp
            · rw [List.map_append] at hp
              rcases List.mem_append.mp hp with hp | hp
              · exact .tail _ (.tail _ (.tail _ (.tail _ (.tail _ (List.mem_append_left _ hp)))))
              · rw [List.map_singleton, List.mem_singleton] at hp
                exact .tail _ (.tail _ (hp ▸ .head _))
            · exact .tail _ (.tail _ (.tail _ (.tail _ (.tail _ (List.mem_append_right _ hp)))))
  case hkk =>
    intro p hp
    rw [List.mem_singleton.mp hp]
    exact hk
  case hrr => exact fun z h1 _ => hr z (h1 _ (.head _))
  case hq =>
    show runP deg k left trial ((ent ++ [(T, trial, ta, tb)]).map fun e => e.2.1) = some final
    rw [List.map_append]; exact hrun
  case hgt =>
    intro e he
    rcases List.mem_append.mp he with he | he
    · exact hgt e he
    · rw [List.mem_singleton.mp he]; exact hPT
  case h512 =>
    intro e he
    rcases List.mem_append.mp he with he | he
    · exact h512 e he
    · rw [List.mem_singleton.mp he]; exact htr
  case hl =>
    show (ent ++ [(T, trial, ta, tb)]).length ≤ 9
    rw [List.length_append]
    exact Nat.succ_le_succ hl
end Mine
end
-- part C1
section
open PySem PySem.W PyProof.Rows
namespace Mine
section
local macro_rules | `(tactic| walk_at "no key at all") => `(tactic| skip)
local macro_rules | `(tactic| walk_at "binaryOp LShift int int") => `(tactic| (k_here; (with_reducible refine lshift_int ?kbn ?kbs ?_); (case kbn => omega); (case kbs => (try rw [show Builtin.Int.intBits 1 = 1 from rfl]); omega)))
local macro_rules | `(tactic| walk_at "exec While Compare cons nil") => `(tactic| (k_while_given ["n!", "q"] (fun n₀ q script n => 0 ≤ n ∧ Builtin.Int.intBits n ≤ 100000 ∧ restI n q = restI n₀ q) (fun n₀ q script n => Builtin.Int.intBits n) "n"))
set_option maxRecDepth 100000 in
set_option maxHeartbeats 8000000 in
theorem rest_c (w : World) (n q : Int) (t u : Tok) : Ctr 2 w 143 (0 ≤ n ∧ Builtin.Int.intBits n ≤ 100000 ∧ 0 < q) [.int n t, .int q u] (fun t => .int (restI n q) t) := by
  unfold Ctr
  intro pgm loose mean mg mb dp un gd cn cs a ccd cl outer A₀ base h₀ L m news s Q E B F X N T hk hpre hd hu hret
  obtain ⟨hn, hb, hq⟩ := hpre
  dsimp only [CbRet] at hret
  have fill : PySem.Challenge.rw_tr0044_01 = PySem.Challenge.rw_tr0044_01 ∧ Mine.hd.heap_1 = Mine.hd.heap_1 := by
    k_fill
    exact ⟨rfl, rfl⟩
  clear fill
  refine wpAny_call ?_
  k_dflt cell_enter
  k_with_none
  k_with "state" => exact rest_state (by assumption) (by assumption) (by assumption) (by assumption) (by assumption)
  k_with "measure" => exact (rest_step (by assumption) (by assumption) (by assumption)).2.1
  k_steps
  exact cb_retI hret ((rest_end (by assumption) (by assumption) (by assumption)).symm.trans (by assumption)) (by k_asm) (by k_asm)
end
end Mine
end
-- part A5
section
open PySem PySem.W PyProof.Rows
set_option maxRecDepth 100000
namespace Mine
section

local macro_rules | `(tactic| k_inst) => `(tactic| (refine' acc_inst ?N ?h1 ?h2; (case N => k_asm); (case h1 => k_mem); (case h2 => k_mem)))
local macro_rules | `(tactic| walk_at "getMethod ref") => `(tactic| (k_here; k_dflt (refine' method_bi (id := "list.append") ?k1 ?k2 ?k3 ?k4 ?k5 ?k6 ?k7 ?k8 ?_; (case k1 => exact Frag.In.keeps (by k_asm) (Fr.keep (by k_asm))); (case k2 => k_inst); (case k3 => k_is); (case k4 => k_is); (case k5 => k_is); (case k6 => exact PySem.F.type_list_append); (case k7 => decide); (case k8 => first | assumption | (with_unfolding_all rfl) | k_get))))
local macro_rules | `(tactic| walk_at "call builtin:list.append") => `(tactic| (k_here; k_dflt (refine' acc_append ?k1 ?k2 ?k3 ?k4 ?k5 ?k6 ?k7 ?_; (case k1 => k_asm); (case k2 => k_asm); (case k3 => k_asm); (case k4 => k_inst); (case k5 => k_is); (case k6 => exact Upd.tail (Nat.ne_of_gt (And.left (by assumption))) (Upd.head (List.forall_mem_cons.mpr ⟨by assumption, by assumption⟩))); (case k7 => assumption); intro h' F' N')))
theorem allLt_get {d : Nat} {l : List (Addr × Obj)} (h : AllLt d l) (p : Addr × Obj) (hp : p ∈ l) : p.1 < d := by
  induction l with
  | nil => exact absurd hp (List.not_mem_nil)
  | cons q r ih =>
    rcases List.mem_cons.mp hp with e | hp
    · rw [e]; exact h.1
    · exact ih h.2 hp
theorem push_ret {P dx : Addr} {items : Array Value} {n : Nat} {o1 : Obj} {rest : List (Addr × Obj)} {a b : Str} {ta tb : Tok} {h₀ : Heap} {L : Addr} {m : Str → Option Value} {s : Shared} {Q : Value → Shared → Prop}
    (hret : ∀ (T : Addr) (h' : Heap) (tk' : Nat), Fr h₀ L h' m → News h₀ L h' ((P, accObj 115 dx (items.push (.ref T)) (n + 1)) :: (dx, o1) :: (T, { cls := .type "tuple", data := .seq #[.str a ta, .str b tb] }) :: rest) → P < T → dx < T → (∀ p ∈ rest, p.1 < T) → Q .none { s with heap := h', toks := tk' })
    {T : Addr} {h' : Heap} {tk' : Nat} (F : Fr h₀ L h' m) (N : News h₀ L h' ((P, accObj 115 dx (items.push (.ref T)) (n + 1)) :: (dx, o1) :: (T, { cls := .type "tuple", data := .seq #[.str a ta, .str b tb] }) :: rest)) (l : P < T ∧ dx < T ∧ AllLt T rest) : Q .none { s with heap := h', toks := tk' } :=
  hret T h' tk' F N l.1 l.2.1 (allLt_get l.2.2)
set_option maxRecDepth 100000 in
set_option maxHeartbeats 8000000 in
theorem push_c (w : World) (P dx : Addr) (items : Array Value) (n : Nat) (hs : Int) (tk t0 : Tok) (rest : List (Addr × Obj)) (a b : Str) (ta tb : Tok) (hz : items.size ≤ 1000) (hne : dx ≠ P) (hre : ∀ p ∈ rest, p.1 ≠ P) :
    CtrQ 4 w 59 [.ref P, .str a ta, .str b tb] (fun h₀ L m h => News h₀ L h ((P, accObj 115 dx items n) :: (dx, accD hs tk t0) :: rest)) (fun Q h₀ L m s => ∀ (T : Addr) (h' : Heap) (tk' : Nat), Fr h₀ L h' m → News h₀ L h' ((P, accObj 115 dx (items.push (.ref T)) (n + 1)) :: (dx, accD hs tk t0) :: (T, { cls := .type "tuple", data := .seq #[.str a ta, .str b tb] }) :: rest) → P < T → dx < T → (∀ p ∈ rest, p.1 < T) → Q .none { s with heap := h', toks := tk' }) := by
  unfold CtrQ
  intro pgm loose mean mg mb dp un gd cn cs a ccd cl outer A₀ base h₀ L m s Q E B F X N T hk hd hu hret
  skip
  have fill : PySem.Challenge.rw_tr0044_01 = PySem.Challenge.rw_tr0044_01 ∧ Mine.hd.heap_1 = Mine.hd.heap_1 := by
    k_fill
    exact ⟨rfl, rfl⟩
  clear fill
  refine wpAny_call ?_
  k_dflt (refine' code_def ?k1 ?k2 ?k3 ?k4 ?k5 ?kA ?kF ?kK ?k6 ?k7 ?k8 ?k9 ?kB ?_ ?c2 ?c3 ?c4 ?c5; (case kA => exact rfl); (case kF => exact rfl); (case kK => first | exact rfl | assumption); (case k1 => k_asm); (case k2 => k_asm); (case k3 => k_asm); (case k4 => k_asm); (case k5 => k_asm); (case k6 => k_is); (case k7 => k_is); (case k8 => ktr_room); (case k9 => exact BindsTo.of_eq rfl); (case c5 => decide); (case kB => exact locs rfl); (case c2 => exact rfl); (case c3 => exact rfl); (case c4 => exact rfl); k_whole; intro g' L' h' FG' F' N' B' X' T'; (try dsimp only); (try k_lift B'); (try k_fold))
  k_with_none
  k_steps
  refine push_ret hret (by k_asm) (by refine' cb_drop ?cbN ?cbS; (case cbN => assumption); (case cbS => kcj_all)) (by assumption)
end
end Mine
end
-- part D1
section
open PySem PySem.W PyProof.Rows
set_option maxRecDepth 100000
namespace Mine
section
local macro_rules | `(tactic| k_inst) => `(tactic| (refine' acc_inst ?N ?h1 ?h2; (case N => k_asm); (case h1 => k_mem); (case h2 => k_mem)))
local macro_rules | `(tactic| walk_at "getMethod ref") => `(tactic| (k_here; k_dflt (refine' method_fnL ?k1 ?k2 ?k3 ?k4 ?k5 ?k6 ?k8 ?_; (case k1 => exact Frag.In.keeps (by k_asm) (Fr.keep (by k_asm))); (case k2 => k_inst); (case k3 => k_is); (case k4 => k_is); (case k5 => k_is); (case k6 => k_is); (case k8 => with_unfolding_all rfl))))
local macro_rules | `(tactic| k_all) => `(tactic| assumption)
local macro_rules | `(tactic| walk_at "call ref") => `(tactic| (refine HoldI.mk ?_))
local macro_rules | `(tactic| walk_at "call builtin:str.join") => `(tactic| (refine HoldI.mk ?_))
local macro_rules | `(tactic| walk_at "subscriptTail") => `(tactic| (k_here; (with_reducible show wpAny _ _ (subscriptTail _ _ (Value.str _ _) (Value.int _ _)) _ _ _); (refine KXi.item (n := 2) (by decide) (Int.le_trans (by decide) (bit01 _).1) (bit01 _).2 (by decide) ?_); intro _))
local macro_rules | `(tactic| walk_at "KCtEl") => `(tactic| (refine kct_el (sign_item _ _) (by with_unfolding_all rfl) (by with_unfolding_all rfl)))
local macro_rules | `(tactic| walk_at "call builtin:len") => `(tactic| (refine HoldI.mk ?_))
local macro_rules | `(tactic| walk_at "exec While Compare cons nil") => `(tactic| (refine HoldI.mk ?_))
set_option maxRecDepth 100000 in
set_option maxHeartbeats 8000000 in
theorem primes_c (w : World) (ps : Array Value) (rst : List (Addr × Obj)) (ht : TriplesOk ps.toList) (hr : ∀ p ∈ rst, p.1 ≠ 77) (whole : Nat) (tw : Tok) (hw2 : whole < 512) (final : List Nat) (hf : primesOf whole = some final) :
    CtrQ 12 w 183 [.int (whole : Int) tw] (fun h₀ L m h => CodeHd h₀ 81 77 ∧ News h₀ L h ((77, tabObj ps) :: rst))
      (fun Q h₀ L m s => AllBare s.gens ∧ ∀ (P dx : Addr) (hs : Int) (tk t0 : Tok) (ent : List PEnt) (n : Nat) (h' : Heap) (g' : Array GenState) (tk' : Nat) (ps' : Array Value), Fr h₀ L h' m → TriplesOk ps'.toList → AllBare g' →
        News h₀ L h' ((P, accObj 115 dx (pItems ent) n) :: (dx, accD hs tk t0) :: (77, tabObj ps') :: (ent.map tupE ++ rst)) → (ent.map fun e => e.2.1) = final → @LT.lt Nat _ dx P → (∀ p ∈ (77, tabObj ps) :: rst, p.1 < dx) → (∀ e ∈ ent, @LT.lt Nat _ P e.1) →
        Q (.ref P) { s with heap := h', gens := g', toks := tk' }) := by
  unfold CtrQ
  intro pgm loose mean mg mb dp un gd cn cs a ccd cl outer A₀ base h₀ L m s Q E B F X N T hk hd hu hret
  obtain ⟨CH, N⟩ := N
  obtain ⟨G, hret⟩ := hret
  have fill : PySem.Challenge.rw_tr0044_01 = PySem.Challenge.rw_tr0044_01 ∧ Mine.hd.heap_1 = Mine.hd.heap_1 := by
    k_fill
    exact ⟨rfl, rfl⟩
  clear fill
  refine wpAny_call ?_
  k_dflt (refine' code_defC ?k1 ?k2 ?k3 ?k4 ?k5 ?kA ?kF ?kK ?k6 ?k7 ?k8 ?k9 ?kB ?kD ?_ ?c2 ?c3 ?c4; (case kA => exact rfl); (case kF => exact rfl); (case kK => first | exact rfl | assumption); (case k1 => k_asm); (case k2 => k_asm); (case k3 => k_asm); (case k4 => k_asm); (case k5 => k_asm); (case k6 => k_is); (case k7 => k_is); (case k8 => ktr_room); (case k9 => exact BindsTo.of_eq rfl); (case kB => exact rfl); (case kD => decide +kernel); (case c2 => exact rfl); (case c3 => exact rfl); (case c4 => exact rfl); k_whole; intro g' L' h' tk' cells' FG' F' N' Y' B' X' T' l1; k_cells Y'; (try simp only [List.cons_append, List.nil_append] at N'); (try dsimp only); (try k_lift B'); (try k_fold))
  k_with_none
  have h77 := ltN (l1 _ (List.Mem.head _))
  dsimp only at h77
  have hcl : ∀ p ∈ rst, p.1 ≠ L' + 1 := fun p hp => Nat.ne_of_lt (Nat.lt_succ_of_lt (l1 p (.tail _ hp)))
  k_steps
  unfold HoldI
  (refine' accnew_c _ _ _ _ _ _ _ _ _ _ _ _ _ _ _ _ _ _ _ _ _ _ _ _ ?k1 ?k2 ?k3 ?k4 ?k5 ?kK ?kd ?ku ?_); (case k1 => k_asm); (case k2 => k_asm); (case k3 => k_asm); (case k5 => k_asm); (case kK => first | exact rfl | assumption); (case kd => ktr_room); (case ku => ktr_units)
  case k4 => k_asm
  intro P9 dx9 tk9 t9 h9 tk8 F9 N9 l8 l9
  have l7 := ltN (l8 _ (List.Mem.head _))
  replace l9 := ltN l9
  dsimp only at l7
  have l6 := ltN (l8 _ (.tail _ (List.Mem.head _)))
  dsimp only at l6
  dsimp only
  k_steps
  unfold HoldI
  rename News _ _ _ _ => N8
  rename Fr _ _ _ _ => F8
  rename Obj => ob8
  rename ob8.data = _ => hob8

  refine gw_while (σ := PS) (PLed P9 dx9 (PyData.keyHash w.params (Str.ofString "_initial_size")) tk9 t9 (L' + 1) rst) (fun c => [(Str.ofString "left", .int (c.left : Int) c.tl)]) [] (PInv P9 (bitsN whole - 1) final) (fun c => c.k) ⟨whole, tw, 3, _, ob8, [], 0, ps, 2000⟩ G F8 ?n8 ?hk ⟨hob8, ht, hf, (fun _ h => nomatch h), (fun _ h => nomatch h), Nat.zero_le 9⟩ ?turn ?hE
  case n8 =>
    intro p hp
    refine N8 p ?_
    rcases List.mem_cons.mp hp with h | hp
    · exact h ▸ .head _
    · rcases List.mem_cons.mp hp with h | hp
      · exact .tail _ (h ▸ .head _)
      · rcases List.mem_cons.mp hp with h | hp
        · exact .tail _ (.tail _ (.tail _ (h ▸ .head _)))
        · rcases List.mem_cons.mp hp with h | hp
          · exact .tail _ (.tail _ (h ▸ .head _))
          · exact .tail _ (.tail _ (.tail _ (.tail _ hp)))
  case hk =>
    intro p hp
    rw [List.mem_singleton.mp hp]
    rfl
  case hE => passes_own
  case turn =>
    intro c u h g tk hp G9 F9 N9
    obtain ⟨left, tl, trial, tt, ob, ent, n, ps1, k⟩ := c
    obtain ⟨hob, ht1, hrun, hgt, h512, hlen⟩ := hp
    dsimp only at hob ht1 hrun hgt h512 hlen
    dsimp only [PLed] at N9 F9
    k_steps
    unfold HoldI
    have hne77 : ∀ p ∈ ent.map tupE ++ rst, p.1 ≠ 77 := ents_ne hgt (Nat.le_of_lt (Nat.lt_trans l6 l9)) hr
    have hneT : ∀ p ∈ ent.map tupE ++ rst, p.1 ≠ L' + 1 := ents_ne hgt (Nat.le_of_lt (Nat.lt_trans l7 l9)) hcl
    have hnT77 : L' + 1 ≠ 77 := by k_ne
    (refine' len_c w P9 dx9 (pItems ent) n _ tk9 t9 ps1 ((L' + 1, ob) :: (ent.map tupE ++ rst)) (lsOf ent) ht1 (List.forall_mem_cons.mpr ⟨hnT77, hne77⟩) (by k_ne) (by k_ne) (by rw [items_size]; omega) (ls_le h512) (fun j hj => by obtain ⟨T, a, b, ta, tb, e, hm, r⟩ := ls_hit (rest := rst) h512 j hj; exact ⟨T, a, b, ta, tb, e, .tail _ hm, r⟩) _ _ _ _ _ _ _ _ _ _ _ _ _ _ _ _ _ _ _ _ _ _ ?k1 ?k2 ?k3 ?k4 ?k5 ?kK ?kd ?ku ?_); (case k1 => k_asm); (case k2 => k_asm); (case k3 => k_asm); (case k5 => k_asm); (case kK => first | exact rfl | assumption); (case kd => ktr_room); (case ku => ktr_units)
    case k4 => exact ⟨CH.keeps (Fr.keep (by assumption)), by k_asm⟩
    refine ⟨G9, fun t6 h6 g6 tk6 ps6 F6 N6 T6 G6 => ?_⟩
    rw [preSum_items]
    try clear F9 N9
    k_steps
    · unfold HoldI
      rename @LT.lt Int _ _ _ => ha
      rw [intBits_cast] at ha
      obtain ⟨k, rfl, ⟨q1, q2, q3, q4, q5⟩, r1, r2, r3⟩ := runP_go hrun (by omega)
      have hb1 := bits_512 _ q4
      have hb2 := bits_512 _ q2
      have hb3 := bits_pos q1
      have hb4 := bits_pos q3
      refine' Ctr.use (rest_c w (left : Int) (trial : Int) tl tt) ?k1 ?k2 ?k3 ?k4 ?k5 ?kK ?kp ?kd ?ku ?_; (case k1 => k_asm); (case k2 => k_asm); (case k3 => k_asm); (case k4 => k_asm); (case k5 => k_asm); (case kK => first | exact rfl | assumption); (case kp => exact ⟨by omega, by rw [intBits_cast]; omega, by omega⟩); (case kd => ktr_room); (case ku => ktr_units)
      intro t11 h11 tk11 F11 N11
      rw [restI_cast]
      try clear F6 N6
      k_steps
      unfold HoldI
      refine' Ctr.use (iseof_c w ((rest left trial : Nat) : Int) t11) ?k1 ?k2 ?k3 ?k4 ?k5 ?kK ?kp ?kd ?ku ?_; (case k1 => k_asm); (case k2 => k_asm); (case k3 => k_asm); (case k4 => k_asm); (case k5 => k_asm); (case kK => first | exact rfl | assumption); (case kp => exact trivial); (case kd => ktr_room); (case ku => ktr_units)
      intro t12 h12 tk12 F12 N12
      try clear F11 N11
      k_steps
      · rw [intBits_cast] at *
        refine LCg.CompSrc.range (n := bitsN trial - 1) (by rfl) (by k_asm) (by k_asm) (by assumption) ?hsm ?hn ?hz ?_
        case hsm => exact small_one (by omega) (by omega) (by omega) (by omega)
        case hn => rw [rangeSize_nat]; omega
        case hz => rw [PySem.sizeLine_eq]; omega
        intro g'
        refine kct_range (fun k => signOf trial k.toNat) (fun k' t' I' oI' C' oC' D' m' ys' h' tk' E' hlo' hhi' hC' hx' F' N' off' ne' mk' => ?_) ?_
        · have off0 := off'
          simp only [LCg.Off3, and_true] at off'
          k_steps
          exact LCg.CompEnd.intro (by k_asm) (by k_asm) _ (fun p hp => hp) off0 trivial (kct_el (sign_item _ _) rfl rfl)
        · unfold KPfDone
          intro ys hys hlen'
          intro D h14 tk14 F14 N14 off'
          try clear F12 N12
          k_steps
          unfold HoldI
          refine join_madeW (B := 1) (l := rangeKs 0 (bitsN trial - 1)) (g := fun k => signOf trial k.toNat) ⟨_, (N14 _ (.head _)).1, rfl, _, rfl⟩ (by rw [List.map_map]; exact hys) (fun k _ => sign_length _ _) (by rw [rangeKs_length]; omega) (by decide) (fun t15 tk15 => ?_)
          rw [word_join]
          k_steps
          unfold HoldI
          have hreP : ∀ p ∈ (77, tabObj ps6) :: (L' + 1, ob) :: (ent.map tupE ++ rst), p.1 ≠ P9 := by
            intro p hp
            rcases List.mem_cons.mp hp with h | hp
            · rw [h]; k_ne
            · rcases List.mem_cons.mp hp with h | hp
              · rw [h]; k_ne
              · rcases List.mem_append.mp hp with hp | hp
                · obtain ⟨e, he, rfl⟩ := List.mem_map.mp hp
                  exact Nat.ne_of_gt (hgt e he)
                · exact Nat.ne_of_lt (Nat.lt_trans (l1 p (.tail _ hp)) (by omega))
          (refine' push_c w P9 dx9 (pItems ent) n (PyData.keyHash w.params (Str.ofString "_initial_size")) tk9 t9 ((77, tabObj ps6) :: (L' + 1, ob) :: (ent.map tupE ++ rst)) _ _ _ _ (by rw [items_size]; omega) (by k_ne) hreP _ _ _ _ _ _ _ _ _ _ _ _ _ _ _ _ _ _ _ _ _ _ ?k1 ?k2 ?k3 ?k4 ?k5 ?kK ?kd ?ku ?_); (case k1 => k_asm); (case k2 => k_asm); (case k3 => k_asm); (case k5 => k_asm); (case kK => first | exact rfl | assumption); (case kd => ktr_room); (case ku => ktr_units)
          case k4 => exact fun p hp => N14 p (.tail _ hp)
          intro T16 h16 tk16 F16 N16 hPT hdT hrT
          try clear F14 N14
          k_steps
          unfold HoldI
          refine' Ctr.use (quot_c w (left : Int) (trial : Int) tl tt) ?k1 ?k2 ?k3 ?k4 ?k5 ?kK ?kp ?kd ?ku ?_; (case k1 => k_asm); (case k2 => k_asm); (case k3 => k_asm); (case k4 => k_asm); (case k5 => k_asm); (case kK => first | exact rfl | assumption); (case kp => exact ⟨by omega, by rw [intBits_cast]; omega, by omega⟩); (case kd => ktr_room); (case ku => ktr_units)
          intro t17 h17 tk17 F17 N17
          rw [quotI_cast]
          try clear F16 N16
          k_steps
          rename Fr _ _ _ _ => F18
          rename News _ _ _ _ => N18
          exact push_end G6 F18 N18 rfl (fun z hz => by
            show (if z = Str.ofString "left" then _ else kstB _ _ z) = _
            rw [if_neg hz]
            exact kstB_out fun p hp => by rw [List.mem_singleton.mp hp]; exact hz) hob T6 (r1 (by omega)) hgt hPT h512 q2 (by rw [List.length_map] at q5; exact q5) (Nat.lt_succ_self k)
      · rename Obj => ob7
        rename ob7.data = _ => hob7
        rename Fr _ _ _ _ => F13
        rename News _ _ _ _ => N13
        refine gw_end (⟨left, tl, left, tl, ob7, ent, n, ps6, k⟩ : PS) G6 F13 N13 ?hn ?hkk ?hrr ?hp ?hm
        case hn => exact fun p hp => hp
        case hkk =>
          intro p hp
          rw [List.mem_singleton.mp hp]
          rfl
        case hrr => exact fun z h1 h2 => kstB_out h1
        case hm => exact Nat.lt_succ_self k
        rename @LT.lt Int _ _ _ => hlt
        rename (_ : Int) ≠ 0 => hz
        rw [intBits_cast, intBits_cast] at hlt
        exact ⟨hob7, T6, r2 (by omega) (by omega), hgt, h512, hlen⟩
      · rename Obj => ob7
        rename ob7.data = _ => hob7
        rename Fr _ _ _ _ => F13
        rename News _ _ _ _ => N13
        refine gw_end (⟨left, tl, trial + 2, _, ob7, ent, n, ps6, k⟩ : PS) G6 F13 N13 ?hn ?hkk ?hrr ⟨hob7, T6, ?hq, hgt, h512, hlen⟩ ?hm
        case hn => exact fun p hp => hp
        case hkk =>
          intro p hp
          rw [List.mem_singleton.mp hp]
          rfl
        case hrr => exact fun z h1 h2 => kstB_out h1
        case hm => exact Nat.lt_succ_self k
        rename ¬ @LT.lt Int _ _ _ => hlt
        rename (_ : Int) ≠ 0 => hz
        rw [intBits_cast, intBits_cast] at hlt
        exact r3 (by omega) (by omega)
    · rename ¬ @LT.lt Int _ _ _ => ha
      rw [intBits_cast] at ha
      have e9 := runP_stop hrun (by omega)
      rename News _ _ _ _ => N19
      exact hret P9 dx9 _ tk9 t9 ent n _ g6 _ ps6 (by k_asm) T6 G6 (fun p hp => N19 p (by
        rcases List.mem_cons.mp hp with h | hp
        · exact h ▸ .head _
        · rcases List.mem_cons.mp hp with h | hp
          · exact .tail _ (h ▸ .head _)
          · rcases List.mem_cons.mp hp with h | hp
            · exact .tail _ (.tail _ (h ▸ .head _))
            · exact .tail _ (.tail _ (.tail _ (.tail _ hp))))) e9 l9 (fun p hp => Nat.lt_trans (l1 p hp) (Nat.lt_trans (Nat.lt_succ_self _) l7)) hgt
end
end Mine
end
-- part B9
section
set_option maxRecDepth 100000
set_option maxHeartbeats 1000000
open PySem PySem.W PySem.Calls PyProof.Rows
namespace Mine
def perF : List Nat → Nat → Str → Nat → Nat → Nat × Nat
  | [], per, _, _, most => (per, most)
  | p :: r, per, bef, oft, most =>
    if wordOf p = bef then perF r per (wordOf p) (oft + 1) (max most (oft + 1))
    else perF r (per * ord p / Nat.gcd per (ord p)) (wordOf p) 1 (max most 1)
def twoN (m : Nat) : Nat := if m ≤ 1 then 1 else if m ≤ 2 then 2 else if m ≤ 4 then 4 else if m ≤ 8 then 8 else 16
def TwoI (m t : Int) : Prop := (t = 1 ∨ t = 2 ∨ t = 4 ∨ t = 8 ∨ t = 16) ∧ t ≤ (twoN m.toNat : Int)
theorem two_start {m : Int} : TwoI m 1 := by
  unfold TwoI twoN
  refine ⟨.inl rfl, ?_⟩
  repeat' split
  all_goals omega
theorem two_step {m t : Int} (hm : m ≤ 9) (h : TwoI m t) (hlt : t < m) : TwoI m (2 * t) := by
  unfold TwoI twoN at *
  obtain ⟨h1, h2⟩ := h
  repeat' split at h2
  all_goals (repeat' split)
  all_goals omega
theorem two_less {m t : Int} (h : TwoI m t) (hlt : t < m) (hm : m ≤ 9) : (16 - 2 * t).toNat < (16 - t).toNat := by
  unfold TwoI at h
  omega
theorem two_end {m t : Int} (h : TwoI m t) (hlt : ¬ t < m) : t = (twoN m.toNat : Int) := by
  unfold TwoI twoN at *
  obtain ⟨h1, h2⟩ := h
  repeat' split at h2
  all_goals (repeat' split)
  all_goals omega
theorem two_bits (m : Int) : Builtin.Int.intBits ((twoN m.toNat : Nat) : Int) ≤ 64 := by
  unfold twoN
  repeat' split
  all_goals decide
def periodOf (ws : List Nat) : Nat := (perF ws.reverse 1 (Str.ofString "") 0 0).1 * twoN (perF ws.reverse 1 (Str.ofString "") 0 0).2
structure QS where
  ent : List PEnt
  n : Nat
  per : Nat
  tp : Tok
  bef : Str
  tb : Tok
  oft : Nat
  to : Tok
  most : Nat
  tm : Tok
abbrev QLed (P dx : Addr) (hs : Int) (tk t0 : Tok) (all : List PEnt) (rst : List (Addr × Obj)) (c : QS) : List (Addr × Obj) :=
  (P, accObj 115 dx (pItems c.ent) c.n) :: (dx, accD hs tk t0) :: (all.map tupE ++ rst)
abbrev QPs (c : QS) : List (Str × Value) := [(Str.ofString "period", .int (c.per : Int) c.tp), (Str.ofString "before", .str c.bef c.tb), (Str.ofString "often", .int (c.oft : Int) c.to), (Str.ofString "most", .int (c.most : Int) c.tm)]
def QInv (all : List PEnt) (c : QS) : Prop :=
  (∀ e ∈ c.ent, e ∈ all) ∧ (c.most + c.ent.length ≤ 9 ∧ c.oft + c.ent.length ≤ 9) ∧ perF (c.ent.map fun e => e.2.1).reverse c.per c.bef c.oft c.most = perF (all.map fun e => e.2.1).reverse 1 (Str.ofString "") 0 0
abbrev QStored : List Str := [Str.ofString "word", Str.ofString "prime", Str.ofString "k", Str.ofString "steps", Str.ofString "a", Str.ofString "b"]
theorem q_end {h₀ : Heap} {L : Addr} {s : Shared} {P dx : Addr} {hs : Int} {tk t0 : Tok} {all ent' : List PEnt} {e : PEnt} {rst : List (Addr × Obj)} {m₀ m' : Str → Option Value} {n per' oft' most' : Nat} {p1 o3 m4 : Int} {tp tb to tm : Tok} {c : QS} {h' : Heap} {g' : Array GenState} {tk' : Nat}
    (G : AllBare g') (F : Fr h₀ L h' m') (N : News h₀ L h' ((P, accObj 115 dx (pItems ent') (n + 1)) :: (dx, accD hs tk t0) :: (all.map tupE ++ rst)))
    (k1 : m' (Str.ofString "period") = some (.int p1 tp)) (e1 : p1 = (per' : Int)) (k2 : m' (Str.ofString "before") = some (.str (wordOf e.2.1) tb)) (k3 : m' (Str.ofString "often") = some (.int o3 to)) (e3 : o3 = (oft' : Int)) (k4 : m' (Str.ofString "most") = some (.int m4 tm)) (e4 : m4 = (most' : Int))
    (hr : ∀ z, z ≠ Str.ofString "period" → z ≠ Str.ofString "before" → z ≠ Str.ofString "often" → z ≠ Str.ofString "most" → z ≠ Str.ofString "word" → z ≠ Str.ofString "prime" → z ≠ Str.ofString "k" → z ≠ Str.ofString "steps" → z ≠ Str.ofString "a" → z ≠ Str.ofString "b" → QStored.contains z = false → m' z = m₀ z)
    (hc : c.ent = ent' ++ [e]) (hsub : ∀ x ∈ c.ent, x ∈ all) (hl : most' + ent'.length ≤ 9 ∧ oft' + ent'.length ≤ 9)
    (hper : perF (ent'.map fun e => e.2.1).reverse per' (wordOf e.2.1) oft' most' = perF (all.map fun e => e.2.1).reverse 1 (Str.ofString "") 0 0) :
    GwEnd h₀ L s (QLed P dx hs tk t0 all rst) QPs QStored m₀ (QInv all) (fun c => c.ent.length) c { s with heap := h', gens := g', toks := tk' } := by
  subst e1 e3 e4
  refine gw_end (⟨ent', n + 1, per', tp, wordOf e.2.1, tb, oft', to, most', tm⟩ : QS) G F N (fun p hp => hp) ?_ ?_ ⟨fun x hx => hsub x (by rw [hc]; exact List.mem_append_left _ hx), hl, hper⟩ ?_
  · exact List.forall_mem_cons.mpr ⟨k1, List.forall_mem_cons.mpr ⟨k2, List.forall_mem_cons.mpr ⟨k3, List.forall_mem_cons.mpr ⟨k4, fun _ h => nomatch h⟩⟩⟩⟩
  · intro z h1 h2
    have hne : ∀ x ∈ QStored, z ≠ x := fun x hx e => by
      rw [e] at h2
      have : QStored.contains x = true := by simpa using hx
      rw [this] at h2; cases h2
    exact hr z (h1 _ (.head _)) (h1 _ (.tail _ (.head _))) (h1 _ (.tail _ (.tail _ (.head _)))) (h1 _ (.tail _ (.tail _ (.tail _ (.head _))))) (hne _ (.head _)) (hne _ (.tail _ (.head _))) (hne _ (.tail _ (.tail _ (.head _)))) (hne _ (.tail _ (.tail _ (.tail _ (.head _))))) (hne _ (.tail _ (.tail _ (.tail _ (.tail _ (.head _)))))) (hne _ (.tail _ (.tail _ (.tail _ (.tail _ (.tail _ (.head _))))))) h2
  · show ent'.length < c.ent.length
    rw [hc, List.length_append]
    exact Nat.lt_succ_self _
theorem perF_same {ent' : List PEnt} {e : PEnt} {per oft most : Nat} {bef : Str} (h : wordOf e.2.1 = bef) :
    perF ((ent' ++ [e]).map fun e => e.2.1).reverse per bef oft most = perF (ent'.map fun e => e.2.1).reverse per (wordOf e.2.1) (oft + 1) (max most (oft + 1)) := by
  rw [List.map_append, List.reverse_append]
  show perF (e.2.1 :: _) _ _ _ _ = _
  rw [perF, if_pos h]; rfl
theorem perF_new {ent' : List PEnt} {e : PEnt} {per oft most : Nat} {bef : Str} (h : wordOf e.2.1 ≠ bef) :
    perF ((ent' ++ [e]).map fun e => e.2.1).reverse per bef oft most = perF (ent'.map fun e => e.2.1).reverse (per * ord e.2.1 / Nat.gcd per (ord e.2.1)) (wordOf e.2.1) 1 (max most 1) := by
  rw [List.map_append, List.reverse_append]
  show perF (e.2.1 :: _) _ _ _ _ = _
  rw [perF, if_neg h]; rfl
theorem prime_back : ∀ p < 512, 0 < p → 2 ^ (bitsN p - 1) + p % 2 ^ (bitsN p - 1) = p := by decide +kernel
theorem prime_pos {p : Nat} (h : isPrimeI (p : Int) = true) : 0 < p := by
  unfold isPrimeI at h
  simp only [Bool.and_eq_true, decide_eq_true_eq] at h
  omega
theorem ordI_cast (p : Nat) : ordI (p : Int) = ((ord p : Nat) : Int) := by simp [ordI]
theorem gcd_state {a b : Int} {g : Nat} (ha : 0 ≤ a) (hb : 0 ≤ b) (h : Nat.gcd a.toNat b.toNat = g) (hn : b ≠ 0) : 0 ≤ b ∧ 0 ≤ a.fmod b ∧ Nat.gcd b.toNat (a.fmod b).toNat = g := by
  have e := Int.fmod_eq_emod_of_nonneg a hb
  have h0 := Int.emod_nonneg a hn
  refine ⟨hb, by omega, ?_⟩
  rw [e, ← h]
  obtain ⟨x, rfl⟩ := Int.eq_ofNat_of_zero_le ha
  obtain ⟨y, rfl⟩ := Int.eq_ofNat_of_zero_le hb
  rw [show ((x : Int) % (y : Int)).toNat = x % y from rfl]
  simp only [Int.toNat_natCast]
  rw [Nat.gcd_comm x y, Nat.gcd_rec y x, Nat.gcd_comm]
theorem gcd_less {a b : Int} (ha : 0 ≤ a) (hb : 0 ≤ b) (hn : b ≠ 0) : (a.fmod b).toNat < b.toNat := by
  have e := Int.fmod_eq_emod_of_nonneg a hb
  have h0 := Int.emod_nonneg a hn
  have h1 := Int.emod_lt_of_pos a (show 0 < b by omega)
  omega
theorem walkF_bound (p : Nat) : ∀ f r s : Nat, s ≤ walkF f p r s ∧ walkF f p r s ≤ s + f
  | 0, r, s => ⟨Nat.le_refl _, Nat.le_refl _⟩
  | f + 1, r, s => by
    have h := walkF_bound p f (rest (2 * r) p) (s + 1)
    rw [walkF]
    split <;> omega
theorem ord_bound (p : Nat) : 1 ≤ ord p ∧ ord p ≤ 257 := by
  have := walkF_bound p 256 (rest 2 p) 1
  unfold ord
  omega
theorem bits_le {n k : Nat} (h : n < 2 ^ k) : bitsN n ≤ k := by
  unfold bitsN
  split
  · omega
  · rename_i hn
    have := (Nat.log2_lt hn).mpr h
    omega
theorem ord_bits (p : Nat) : Builtin.Int.intBits ((ord p : Nat) : Int) ≤ 64 := by
  rw [intBits_cast]
  have := (ord_bound p).2
  exact bits_le (Nat.lt_of_le_of_lt this (by decide))
theorem gcd_end {a b : Int} {per o : Nat} (ha : 0 ≤ a) (hb : b = 0) (h : Nat.gcd a.toNat b.toNat = Nat.gcd per o) : a = ((Nat.gcd per o : Nat) : Int) := by
  subst hb
  rw [show (0 : Int).toNat = 0 from rfl, Nat.gcd_zero_right] at h
  omega
theorem gcd_ok (per p : Nat) : ((Nat.gcd per (ord p) : Nat) : Int) ≠ 0 ∧ (((Nat.gcd per (ord p) : Nat) : Int)).natAbs.log2 < 9000 := by
  have hb := ord_bound p
  have h1 := Nat.gcd_pos_of_pos_right per (show 0 < ord p by omega)
  have h2 := Nat.le_of_dvd (show 0 < ord p by omega) (Nat.gcd_dvd_right per (ord p))
  refine ⟨by omega, ?_⟩
  rw [Int.natAbs_natCast]
  exact (Nat.log2_lt (by omega)).mpr (Nat.lt_of_le_of_lt (Nat.le_trans h2 hb.2) (Nat.lt_of_lt_of_le (by decide : 257 < 2 ^ 9) (Nat.pow_le_pow_right (by decide) (by decide))))
theorem periodOf_end {per oft most : Nat} {bef : Str} {ws : List Nat} (h : perF [] per bef oft most = perF ws.reverse 1 (Str.ofString "") 0 0) : (per : Int) * ((twoN (most : Int).toNat : Nat) : Int) = ((periodOf ws : Nat) : Int) := by
  unfold periodOf
  rw [← h]
  rfl
theorem ett (w : World) : nsIn (Mine.hd.heap_1 w.params) mainGlobals (Str.ofString "EXACT_TOKEN_TYPES") = some (some (.ref 120)) := by kernel_rfl
end Mine
namespace Mine
theorem ett_l (w : World) : ∃ es n, (Mine.hd.heap_1 w.params).lookup 120 = some ⟨.type "dict", none, .dict es n, #[]⟩ ∧ KeysLit w.params es.toList := by
  have fill : PySem.Challenge.rw_tr0044_01 = PySem.Challenge.rw_tr0044_01 ∧ Mine.hd.heap_1 = Mine.hd.heap_1 := by
    k_fill
    exact ⟨rfl, rfl⟩
  clear fill
  exact ⟨_, _, by k_is, by k_keys⟩
theorem ett_p (w : World) : ∃ t, nsIn (Mine.hd.heap_1 w.params) 120 (Str.ofString "+") = some (some (.int 14 t)) := by
  have fill : PySem.Challenge.rw_tr0044_01 = PySem.Challenge.rw_tr0044_01 ∧ Mine.hd.heap_1 = Mine.hd.heap_1 := by
    k_fill
    exact ⟨rfl, rfl⟩
  clear fill
  exact ⟨_, by k_is⟩
theorem ett_m (w : World) : ∃ t, nsIn (Mine.hd.heap_1 w.params) 120 (Str.ofString "-") = some (some (.int 15 t)) := by
  have fill : PySem.Challenge.rw_tr0044_01 = PySem.Challenge.rw_tr0044_01 ∧ Mine.hd.heap_1 = Mine.hd.heap_1 := by
    k_fill
    exact ⟨rfl, rfl⟩
  clear fill
  exact ⟨_, by k_is⟩
theorem ett_s (w : World) (p k : Nat) : ∃ t, nsIn (Mine.hd.heap_1 w.params) 120 (signOf p k) = some (some (.int (14 + ((p / 2 ^ k % 2 : Nat) : Int)) t)) := by
  unfold signOf
  rcases Nat.mod_two_eq_zero_or_one (p / 2 ^ k) with h | h
  · rw [h, if_neg (by decide)]; exact ett_p w
  · rw [h, if_pos rfl]; exact ett_m w
theorem word_item : ∀ p < 512, ∀ k < bitsN p - 1, Txt.item (wordOf p) (k : Int) = signOf p k := by decide +kernel
theorem word_item' {p : Nat} {i : Int} {k n : Nat} (hp : p < 512) (hi : i = 0 + (k : Int)) (hn : n = bitsN p - 1) (hk : k < ((n : Int) - 0).toNat) : Txt.item (wordOf p) i = signOf p k := by
  rw [hi, Int.zero_add]
  exact word_item p hp k (by omega)
theorem mod_next (p k : Nat) : p % 2 ^ (k + 1) = p % 2 ^ k + p / 2 ^ k % 2 * 2 ^ k := by
  rw [Nat.pow_succ, Nat.mod_mul, Nat.mul_comm (2 ^ k)]
theorem prime_next {a p k b : Nat} {i v : Int} (hv : v = ((a + p % 2 ^ k : Nat) : Int)) (hi : i = 0 + (k : Int)) (hb : b = k + 1) : v + (14 + ((p / 2 ^ k % 2 : Nat) : Int)).fmod 2 * 2 ^ i.toNat = ((a + p % 2 ^ b : Nat) : Int) := by
  subst hv hi hb
  rw [mod_next, Int.zero_add, Int.toNat_natCast]
  have h : (14 + ((p / 2 ^ k % 2 : Nat) : Int)).fmod 2 = ((p / 2 ^ k % 2 : Nat) : Int) := by
    rw [Int.fmod_eq_emod_of_nonneg _ (by decide)]
    omega
  rw [h]
  push_cast
  omega
end Mine
end
-- part A6
section
open PySem PySem.W PyProof.Rows
set_option maxRecDepth 100000
namespace Mine
section
local macro_rules | `(tactic| k_inst) => `(tactic| (refine' acc_inst ?N ?h1 ?h2; (case N => k_asm); (case h1 => k_mem); (case h2 => k_mem)))
local macro_rules | `(tactic| walk_at "getMethod ref") => `(tactic| (k_here; k_dflt (first
  | (refine' super_method_bi (id := "list.__len__") ?k1 ?k2 ?k3 ?k4 ?k5 ?k6 ?k7 ty_len slot_wdget entry_wdget args_wdget ?k9 (boundObj "method-wrapper" "list.__len__" _) rfl (fun _ _ _ _ q => wdget_len (acc_isList (Frag.In.keeps (by k_asm) (Fr.keep (by k_asm))) (by k_inst) (by k_is)) q) ?_; (case k1 => k_asm); (case k2 => k_asm); (case k3 => k_asm); (case k4 => k_mem); (case k5 => k_inst); (case k6 => k_is); (case k7 => ks_is); (case k9 => decide); intro q' h' F' N' l1; (try k_lt l1))
  | (refine' super_method_bi (id := "list.__init__") ?k1 ?k2 ?k3 ?k4 ?k5 ?k6 ?k7 ty_init slot_wdget entry_wdget args_wdget ?k9 (boundObj "method-wrapper" "list.__init__" _) rfl (fun _ _ _ _ q => wdget_init (acc_isList (Frag.In.keeps (by k_asm) (Fr.keep (by k_asm))) (by k_inst) (by k_is)) q) ?_; (case k1 => k_asm); (case k2 => k_asm); (case k3 => k_asm); (case k4 => k_mem); (case k5 => k_inst); (case k6 => k_is); (case k7 => ks_is); (case k9 => decide); intro q' h' F' N' l1; (try k_lt l1))
  | (refine' super_method_bi (id := "list.pop") ?k1 ?k2 ?k3 ?k4 ?k5 ?k6 ?k7 ty_pop slot_mdget entry_mdget args_mdget ?k9 (boundObj "builtin_function_or_method" "list.pop" _) rfl (fun _ _ _ _ q => mdget_pop (acc_isList (Frag.In.keeps (by k_asm) (Fr.keep (by k_asm))) (by k_inst) (by k_is)) q) ?_; (case k1 => k_asm); (case k2 => k_asm); (case k3 => k_asm); (case k4 => k_mem); (case k5 => k_inst); (case k6 => k_is); (case k7 => ks_is); (case k9 => decide); intro q' h' F' N' l1; (try k_lt l1)))))
local macro_rules | `(tactic| walk_at "callWith ref") => `(tactic| (k_here; k_dflt (refine' callWith_bound (T := "method-wrapper") ?k1 (by decide) (by decide) ?_; (case k1 => exact (News.get (by k_asm) (by k_mem))))))
local macro_rules | `(tactic| walk_at "callWith ref") => `(tactic| (k_here; k_dflt (refine' callWith_bound (T := "builtin_function_or_method") ?k1 (by decide) (by decide) ?_; (case k1 => exact (News.get (by k_asm) (by k_mem))))))
local macro_rules | `(tactic| walk_at "getMethod ref") => `(tactic| (k_here; k_dflt (refine' method_fnL ?k1 ?k2 ?k3 ?k4 ?k5 ?k6 ?k8 ?_; (case k1 => exact Frag.In.keeps (by k_asm) (Fr.keep (by k_asm))); (case k2 => k_inst); (case k3 => k_is); (case k4 => k_is); (case k5 => k_is); (case k6 => k_is); (case k8 => with_unfolding_all rfl))))
local macro_rules | `(tactic| walk_at "call ref") => `(tactic| (k_here; refine wpAny_call ?_; k_dflt (refine' code_def ?k1 ?k2 ?k3 ?k4 ?k5 ?kA ?kF ?kK ?k6 ?k7 ?k8 ?k9 ?kB ?_ ?c2 ?c3 ?c4 ?c5; (case kA => exact rfl); (case kF => exact rfl); (case kK => first | exact rfl | assumption); (case k1 => k_asm); (case k2 => k_asm); (case k3 => k_asm); (case k4 => k_asm); (case k5 => k_asm); (case k6 => k_is); (case k7 => k_is); (case k8 => ktr_room); (case k9 => exact BindsTo.of_eq rfl); (case c5 => decide); (case kB => exact locs rfl); (case c2 => exact rfl); (case c3 => exact rfl); (case c4 => exact rfl); k_whole; intro g' L' h' FG' F' N' B' X' T'; (try dsimp only); (try k_lift B'); (try k_fold))))

def Hold (P : Prop) : Prop := P
theorem Hold.mk {P : Prop} (h : Hold P) : P := h
local macro_rules | `(tactic| walk_at "wpAt") => `(tactic| first | (refine ks_wpAt_execs_cons ?_; try dsimp only) | (refine ks_wpAt_Return_some ?_; try dsimp only) | (ks_step "eval Call"; refine Hold.mk ?_))

local macro_rules | `(tactic| walk_at "call ref") => `(tactic| (k_here; k_dflt (refine' call_bound (T := "builtin_function_or_method") (id := "list.pop") (News.get (by k_asm) (by k_mem)) (by decide) (by decide) (fun _ _ _ q => bound_pop (Frag.In.keeps (by k_asm) (Fr.keep (by k_asm))) (by k_inst) (by k_is) (by k_is) rfl (by k_is) _ _ _ q) (by decide +kernel) PySem.F.entry_list_pop (pop_body (C := 115) (by k_asm) (by k_asm) (News.get (by k_asm) (by k_mem)) ?kU (by assumption) (fun h' F' N' => ⟨_, rfl, ?_⟩)); (case kU => (refine' Upd.tail ?ka (Upd.tail ?kb (Upd.head (List.forall_mem_cons.mpr ⟨by assumption, by assumption⟩))); (case ka => k_ne); (case kb => k_ne))))))
local macro_rules | `(tactic| walk_at "call ref") => `(tactic| (k_here; (try dsimp only [List.cons_append, List.nil_append, List.append_nil]); (first | (refine' count_c _ _ _ _ _ _ _ _ _ _ _ _ _ _ _ _ _ _ _ _ _ _ _ _ _ _ _ _ _ ?k1 ?k2 ?k3 ?k4 ?k5 ?kK ?kd ?ku ?_); (case k1 => k_asm); (case k2 => k_asm); (case k3 => k_asm); (case k4 => k_asm); (case k5 => k_asm); (case kK => first | exact rfl | assumption); (case kd => ktr_room); (case ku => ktr_units)); intro t9 h9 tk9 F9 N9; (try dsimp only); (try k_fold)))
set_option maxRecDepth 100000 in
set_option maxHeartbeats 8000000 in
theorem pop_c (w : World) (P dx : Addr) (items : Array Value) (v : Value) (n : Nat) (hs : Int) (tk t0 : Tok) (rest : List (Addr × Obj)) (hz : items.size ≤ 1000) (hne : dx ≠ P) (hre : ∀ p ∈ rest, p.1 ≠ P) :
    CtrQ 8 w 75 [.ref P] (fun h₀ L m h => News h₀ L h ((P, accObj 115 dx (items.push v) n) :: (dx, accD hs tk t0) :: rest)) (fun Q h₀ L m s => ∀ (h' : Heap) (tk' : Nat), Fr h₀ L h' m → News h₀ L h' ((P, accObj 115 dx items (n + 1)) :: (dx, accD hs tk t0) :: rest) → Q v { s with heap := h', toks := tk' }) := by
  unfold CtrQ
  intro pgm loose mean mg mb dp un gd cn cs a ccd cl outer A₀ base h₀ L m s Q E B F X N T hk hd hu hret
  skip
  have fill : PySem.Challenge.rw_tr0044_01 = PySem.Challenge.rw_tr0044_01 ∧ Mine.hd.heap_1 = Mine.hd.heap_1 := by
    k_fill
    exact ⟨rfl, rfl⟩
  clear fill
  refine wpAny_call ?_
  k_dflt (refine' ks_code_super ?k1 ?k2 ?k3 ?k4 ?k5 ?kA ?kF ?kK ?k6 ?k7 ?k8 ?k9 ?kB ?_ ?c1 ?c2 ?c3 ?c4; (case kA => exact rfl); (case kF => exact rfl); (case kK => first | exact rfl | assumption); (case k1 => k_asm); (case k2 => k_asm); (case k3 => k_asm); (case k4 => k_asm); (case k5 => k_asm); (case k6 => k_is); (case k7 => k_is); (case k8 => ktr_room); (case k9 => first | exact BindsTo.of_eq rfl | exact binds_K (by k_in) rfl (by k_is) rfl rfl rfl); (case kB => exact locs rfl); (case c1 => decide); (case c2 => exact rfl); (case c3 => exact rfl); (case c4 => exact rfl); intro g' L' h' FG' F' N' B' X' T' l1; (try dsimp only); (try k_lift B'))
  k_with_none
  k_steps
  · exfalso
    rename _ = (0 : Int) => hzero
    rw [Array.size_push] at hzero
    omega
  unfold Hold
  refine ks_wpAt_MethodCall ?_
  k_steps
  exact hret _ _ (by k_asm) (by refine' cb_drop ?cbN ?cbS; (case cbN => assumption); (case cbS => kcj_all))
end
end Mine
end
-- part C6
section
open PySem PySem.W PyProof.Rows
namespace Mine
section
local macro_rules | `(tactic| walk_at "call ref") => `(tactic| (k_here; (first | refine' Ctr.use (rest_c _ _ _ _ _) ?k1 ?k2 ?k3 ?k4 ?k5 ?kK ?kp ?kd ?ku ?_ | refine' Ctr.use (iseof_c _ _ _) ?k1 ?k2 ?k3 ?k4 ?k5 ?kK ?kp ?kd ?ku ?_); (case k1 => k_asm); (case k2 => k_asm); (case k3 => k_asm); (case k4 => k_asm); (case k5 => k_asm); (case kK => first | exact rfl | assumption); (case kp => first | exact trivial | k_extra "pre" | assumption | omega); (case kd => ktr_room); (case ku => ktr_units); intro t9 h9 tk9 F9 N9; (try dsimp only); (try k_fold)))
local macro_rules | `(tactic| walk_at "exec While Compare cons nil") => `(tactic| (k_while_given ["prime"] (fun p _ rest steps => 1 ≤ steps ∧ steps ≤ ordI p ∧ rest = xpow p steps) (fun p script rest steps => (ordI p - steps).toNat) "rest" "steps"))
set_option maxRecDepth 100000 in
set_option maxHeartbeats 8000000 in
theorem walked_c (w : World) (p : Int) (t : Tok) : Ctr 4 w 190 (isPrimeI p = true) [.int p t] (fun t => .int (ordI p) t) := by
  unfold Ctr
  intro pgm loose mean mg mb dp un gd cn cs a ccd cl outer A₀ base h₀ L m news s Q E B F X N T hk hpre hd hu hret
  skip
  dsimp only [CbRet] at hret
  have fill : PySem.Challenge.rw_tr0044_01 = PySem.Challenge.rw_tr0044_01 ∧ Mine.hd.heap_1 = Mine.hd.heap_1 := by
    k_fill
    exact ⟨rfl, rfl⟩
  clear fill
  refine wpAny_call ?_
  k_dflt cell_enter
  k_with_none
  k_with "state" => first | exact walk_step hpre (by assumption) (by assumption) (by assumption) (by assumption) | exact walk_start hpre
  k_with "pre" => first | exact walk_pre0 hpre | exact walk_pre1 hpre (by assumption) (by assumption) (by assumption)
  k_with "measure" => exact walk_less hpre (by assumption) (by assumption) (by assumption) (by assumption)
  k_steps
  exact cb_retI hret (walk_end hpre (by assumption) (by assumption) (by assumption) (by assumption)) (by k_asm) (by k_asm)
end
end Mine
end
-- part D2
section
open PySem PySem.W PyProof.Rows
set_option maxRecDepth 100000
namespace Mine
section
local macro_rules | `(tactic| k_inst) => `(tactic| (refine' acc_inst ?N ?h1 ?h2; (case N => k_asm); (case h1 => k_mem); (case h2 => k_mem)))
local macro_rules | `(tactic| walk_at "getMethod ref") => `(tactic| (k_here; k_dflt (refine' method_fnL ?k1 ?k2 ?k3 ?k4 ?k5 ?k6 ?k8 ?_; (case k1 => exact Frag.In.keeps (by k_asm) (Fr.keep (by k_asm))); (case k2 => k_inst); (case k3 => k_is); (case k4 => k_is); (case k5 => k_is); (case k6 => k_is); (case k8 => with_unfolding_all rfl))))
local macro_rules | `(tactic| k_all) => `(tactic| assumption)
local macro_rules | `(tactic| walk_at "call ref") => `(tactic| (refine HoldI.mk ?_))
local macro_rules | `(tactic| walk_at "subscriptTail") => `(tactic| (k_here; (with_reducible show wpAny _ _ (subscriptTail _ _ (Value.ref _) (Value.int _ _)) _ _ _); (refine HoldI.mk ?_)))
local macro_rules | `(tactic| walk_at "pyIter ref") => `(tactic| (refine HoldI.mk ?_))
local macro_rules | `(tactic| walk_at "binaryOp FloorDiv int int") => `(tactic| (refine HoldI.mk ?_))
local macro_rules | `(tactic| walk_at "exec While UnaryOp cons nil") => `(tactic| (refine HoldI.mk ?_))
local macro_rules | `(tactic| walk_at "exec While Compare cons nil") => `(tactic| (refine HoldI.mk ?_))
local macro_rules | `(tactic| kst_same) => `(tactic| (intro z h1 h2 h3; (simp only [List.forall_mem_cons, List.not_mem_nil, false_implies, implies_true, and_true, ne_eq] at h2); first | (simp [h1, h2, kstB]; done) | (simp only [List.contains_cons, List.contains_nil, Bool.or_false, Bool.or_eq_false_iff, beq_eq_false_iff_ne, ne_eq] at h3; simp [h1, h2, h3, kstB]; done)))
local macro_rules | `(tactic| walk_at "subscriptTail") => `(tactic| (k_here; (with_reducible show wpAny _ _ (subscriptTail _ _ (Value.str _ _) (Value.int _ _)) _ _ _); (refine HoldI.mk ?_)))
local macro_rules | `(tactic| walk_at "eval Name") => `(tactic| ((with_reducible show wpAny _ _ (eval (Expr.Name (Str.ofString "EXACT_TOKEN_TYPES") _) _) _ _ _); (refine HoldI.mk ?_)))
local macro_rules | `(tactic| ksw_same) => `(tactic| (intro z h2 h3; first | rfl | ((simp only [List.forall_mem_cons, List.not_mem_nil, false_implies, implies_true, and_true, ne_eq] at h2); (simp [h2, kstB]; done)) | ((simp only [List.forall_mem_cons, List.not_mem_nil, false_implies, implies_true, and_true, ne_eq] at h2); (simp only [List.contains_cons, List.contains_nil, Bool.or_false, Bool.or_eq_false_iff, beq_eq_false_iff_ne, ne_eq] at h3); (simp [h2, h3]; done))))
set_option maxRecDepth 100000 in
set_option maxHeartbeats 8000000 in
theorem period_c (w : World) (P dx : Addr) (hs : Int) (tkx t0 : Tok) (all : List PEnt) (nn : Nat) (rst : List (Addr × Obj)) (tt : Tok) (hpr : ∀ e ∈ all, isPrimeI (e.2.1 : Int) = true ∧ e.2.1 < 512) (hlen : all.length ≤ 9) (hdP : dx ≠ P) (hre : ∀ p ∈ all.map tupE ++ rst, p.1 ≠ P) :
    CtrQ 12 w 197 [.ref P] (fun h₀ L m h => News h₀ L h ((P, accObj 115 dx (pItems all) nn) :: (dx, accD hs tkx t0) :: (all.map tupE ++ rst)))
      (fun Q h₀ L m s => AllBare s.gens ∧ ∀ (t : Tok) (h' : Heap) (g' : Array GenState) (tk' : Nat), Fr h₀ L h' m → News h₀ L h' rst → AllBare g' →
        Q (.int (periodOf (all.map fun e => e.2.1) : Nat) t) { s with heap := h', gens := g', toks := tk' }) := by
  unfold CtrQ
  intro pgm loose mean mg mb dp un gd cn cs a ccd cl outer A₀ base h₀ L m s Q E B F X N T hk hd hu hret
  obtain ⟨G, hret⟩ := hret
  have fill : PySem.Challenge.rw_tr0044_01 = PySem.Challenge.rw_tr0044_01 ∧ Mine.hd.heap_1 = Mine.hd.heap_1 := by
    k_fill
    exact ⟨rfl, rfl⟩
  clear fill
  refine wpAny_call ?_
  k_dflt (refine' code_def ?k1 ?k2 ?k3 ?k4 ?k5 ?kA ?kF ?kK ?k6 ?k7 ?k8 ?k9 ?kB ?_ ?c2 ?c3 ?c4 ?c5; (case kA => exact rfl); (case kF => exact rfl); (case kK => first | exact rfl | assumption); (case k1 => k_asm); (case k2 => k_asm); (case k3 => k_asm); (case k4 => k_asm); (case k5 => k_asm); (case k6 => k_is); (case k7 => k_is); (case k8 => ktr_room); (case k9 => exact BindsTo.of_eq rfl); (case c5 => decide); (case kB => exact locs rfl); (case c2 => exact rfl); (case c3 => exact rfl); (case c4 => exact rfl); k_whole; intro g' L' h' FG' F' N' B' X' T'; (try dsimp only); (try k_lift B'); (try k_fold))
  k_with_none
  k_steps
  unfold HoldI
  rename News _ _ _ _ => N8
  rename Fr _ _ _ _ => F8
  refine' gw_while (σ := QS) (QLed P dx hs tkx t0 all rst) QPs [Str.ofString "word", Str.ofString "prime", Str.ofString "k", Str.ofString "steps", Str.ofString "a", Str.ofString "b"] (QInv all) (fun c => c.ent.length) ⟨all, nn, 1, ?tp, Str.ofString "", ?tb, 0, ?to, 0, ?tm⟩ G F8 N8 ?hk ?inv ?turn ?hE
  case hk =>
    refine List.forall_mem_cons.mpr ⟨?_, List.forall_mem_cons.mpr ⟨?_, List.forall_mem_cons.mpr ⟨?_, List.forall_mem_cons.mpr ⟨?_, fun _ h => nomatch h⟩⟩⟩⟩ <;> exact rfl
  case inv => exact ⟨fun _ h => h, ⟨by dsimp only; omega, by dsimp only; omega⟩, rfl⟩
  case hE => passes_own
  case turn =>
    intro c u h g tk hp G9 F9 N9
    obtain ⟨ent, n, per, tp, bef, tb, oft, to, most, tm⟩ := c
    obtain ⟨hsub, hl9, hper⟩ := hp
    dsimp only at hsub hl9 hper
    dsimp only [QLed, QPs] at N9 F9
    k_steps
    unfold HoldI
    dsimp only [List.cons_append, List.nil_append, List.append_nil]
    (refine' count_c w P dx (pItems ent) n _ (all.map tupE ++ rst) _ _ _ _ _ _ _ _ _ _ _ _ _ _ _ _ _ _ _ _ _ _ ?k1 ?k2 ?k3 ?k4 ?k5 ?kK ?kd ?ku ?_); (case k1 => k_asm); (case k2 => k_asm); (case k3 => k_asm); (case k5 => k_asm); (case kK => first | exact rfl | assumption); (case kd => ktr_room); (case ku => ktr_units)
    case k4 => k_asm
    intro t10 h10 tk10 F10 N10
    try clear F9 N9
    rw [items_size]
    k_steps
    unfold HoldI
    refine' Ctr.use (iseof_c w (ent.length : Int) t10) ?k1 ?k2 ?k3 ?k4 ?k5 ?kK ?kp ?kd ?ku ?_; (case k1 => k_asm); (case k2 => k_asm); (case k3 => k_asm); (case k4 => k_asm); (case k5 => k_asm); (case kK => first | exact rfl | assumption); (case kp => exact trivial); (case kd => ktr_room); (case ku => ktr_units)
    intro t11 h11 tk11 F11 N11
    try clear F10 N10
    k_steps
    · rename (_ : Int) = 0 => hz
      have hnil : ent = [] := List.length_eq_zero_iff.mp (by omega)
      subst hnil
      unfold HoldI
      have two0 : TwoI (most : Int) 1 := two_start
      k_while_given [] (fun _ t => TwoI (most : Int) t) (fun _ t => (16 - t).toNat) "twos"
      k_with "measure" => exact two_less (by assumption) (by assumption) (by omega)
      k_with "state" => first | exact two_start | exact two_step (by omega) (by assumption) (by assumption)
      k_steps
      rename ¬ @LT.lt Int _ _ _ => hlt
      rename TwoI _ _ => kI
      have e2 := two_end kI hlt
      subst e2
      have hb2 := two_bits (most : Int)
      k_steps
      rename News _ _ _ _ => N19
      rw [periodOf_end hper]
      exact hret _ _ _ _ (by k_asm) (fun p hp => N19 p (.tail _ (.tail _ (List.mem_append_right _ hp)))) G9
    · rename (_ : Int) ≠ 0 => hz
      unfold HoldI
      obtain ⟨ent', e, rfl⟩ : ∃ ent' e, ent = ent' ++ [e] := by
        rcases List.eq_nil_or_concat ent with h | ⟨l, b, h⟩
        · rw [h] at hz; exact absurd rfl hz
        · exact ⟨l, b, by rw [h, List.concat_eq_append]⟩
      have hea := hsub e (List.mem_append_right _ (.head _))
      have hmem : (e.1, ({ cls := .type "tuple", data := .seq #[.str (Str.ofString "") e.2.2.1, .str (wordOf e.2.1) e.2.2.2] } : Obj)) ∈ all.map tupE ++ rst := List.mem_append_left _ (List.mem_map.mpr ⟨e, hea, rfl⟩)
      rw [List.length_append, List.length_singleton] at hl9
      have hwl9 := wordOf_length _ (hpr e hea).2
      have hb9 := bits_512 _ (hpr e hea).2
      have hwl : (wordOf e.2.1).length ≤ 1000 := by omega
      dsimp only [List.cons_append, List.nil_append, List.append_nil]
      (refine' pop_c w P dx (pItems ent') (.ref e.1) n hs tkx t0 (all.map tupE ++ rst) (by rw [items_size]; omega) hdP hre _ _ _ _ _ _ _ _ _ _ _ _ _ _ _ _ _ _ _ _ _ _ ?k1 ?k2 ?k3 ?k4 ?k5 ?kK ?kd ?ku ?_); (case k1 => k_asm); (case k2 => k_asm); (case k3 => k_asm); (case k5 => k_asm); (case kK => first | exact rfl | assumption); (case kd => ktr_room); (case ku => ktr_units)
      case k4 => rw [← pItems_push]; k_asm
      intro h12 tk12 F12 N12
      try clear F11 N11
      k_steps
      unfold HoldI
      refine item_tupleT (News.isTup N12 (.tail _ (.tail _ hmem))) (by decide) (by decide) rfl rfl ?_
      k_steps
      · rename (_ == bef) = true => hw
        rename Fr _ _ _ _ => F20
        rename News _ _ _ _ => N20
        refine q_end (ent' := ent') (e := e) (c := ⟨ent' ++ [e], n, per, tp, bef, tb, oft, to, most, tm⟩) G9 F20 N20 rfl rfl rfl rfl rfl rfl ?e4 ?hr1 rfl hsub ?hl1 ((perF_same (eq_of_beq hw)).symm.trans hper)
        case e4 => split <;> omega
        case hl1 => exact ⟨by omega, by show oft + 1 + ent'.length ≤ 9; omega⟩
        case hr1 =>
          intro z n1 n2 n3 n4 n5 n6 n7 n8 n9 n10 hs
          have hs' : [Str.ofString "word", Str.ofString "prime", Str.ofString "k", Str.ofString "steps", Str.ofString "a", Str.ofString "b"].contains z = false := hs
          simp only [kstB, n1, n2, n3, n4, n5, n6, n7, n8, n9, n10, if_false, hs', Bool.false_eq_true]
      · rename (_ == bef) = false => hw
        k_steps
        unfold HoldI
        k_state_given [] (fun pre prime => prime = ((2 ^ (wordOf e.2.1).length + e.2.1 % 2 ^ pre.length : Nat) : Int)) "prime"
        · k_steps
          unfold HoldI
          refine name_K (by k_asm) (by k_asm) (topRead_of (by k_asm)) (ett w) ?_
          iterate 4 (first | walk1 | (dsimp only; walk1))
          rename (_ : Int) = 0 + _ => hkN
          rename @LT.lt Nat _ _ _ => hkL
          rename List Int => kP
          rename (_ : Int) = ((_ : Nat) : Int) => hkI
          rw [word_item' (hpr e hea).2 hkN hwl9 hkL]
          obtain ⟨es, en, el, ek⟩ := ett_l w
          obtain ⟨t33, et⟩ := ett_s w e.2.1 kP.length
          refine topItem_K (by k_asm) (by k_asm) el ek et ?_
          k_with "state" => exact prime_next hkI hkN (by simp)
          k_steps
        · rename Int => pr
          rename pr = _ => hpr9
          have hp9 : pr = ((e.2.1 : Nat) : Int) := by
            rw [hpr9, rangeKs_length, Int.sub_zero, Int.toNat_natCast, hwl9, prime_back _ (hpr e hea).2 (prime_pos (hpr e hea).1)]
          subst hp9
          k_steps
          unfold HoldI
          refine' Ctr.use (walked_c w (e.2.1 : Int) _) ?k1 ?k2 ?k3 ?k4 ?k5 ?kK ?kp ?kd ?ku ?_; (case k1 => k_asm); (case k2 => k_asm); (case k3 => k_asm); (case k4 => k_asm); (case k5 => k_asm); (case kK => first | exact rfl | assumption); (case kp => exact (hpr e hea).1); (case kd => ktr_room); (case ku => ktr_units)
          intro t21 h21 tk21 F21 N21
          rw [ordI_cast]
          have hob := ord_bits e.2.1
          k_steps
          unfold HoldI
          k_while_given [] (fun _ a b => 0 ≤ a ∧ 0 ≤ b ∧ Nat.gcd a.toNat b.toNat = Nat.gcd per (ord e.2.1)) (fun _ a b => b.toNat) "a" "b"
          k_with "measure" => exact gcd_less (by assumption) (by assumption) (by assumption)
          k_with "state" => exact gcd_state (by assumption) (by assumption) (by assumption) (by assumption)
          k_steps
          unfold HoldI
          rename (_ : Int) = 0 => hb0
          rename Nat.gcd _ _ = _ => hgc
          have hae := gcd_end (by assumption) hb0 hgc
          rw [hae]
          refine floordiv_int (gcd_ok per e.2.1).1 ?_ (Or.inl (PyProof.noPylong_of_log2 (gcd_ok per e.2.1).2))
          k_steps
          rename Fr _ _ _ _ => F20
          rename News _ _ _ _ => N20
          refine q_end (ent' := ent') (e := e) (c := ⟨ent' ++ [e], n, per, tp, bef, tb, oft, to, most, tm⟩) (oft' := 1) (n := n) G9 F20 ?nn rfl ?e1 rfl rfl rfl rfl ?e4 ?hr1 rfl hsub ?hl1 ((perF_new (ne_of_beq_false hw)).symm.trans hper)
          case e1 =>
            rw [← Int.natCast_mul, Int.fdiv_eq_ediv_of_nonneg _ (Int.natCast_nonneg _)]
            rfl
          case e4 => split <;> omega
          case hl1 => exact ⟨by omega, by omega⟩
          case hr1 =>
            intro z n1 n2 n3 n4 n5 n6 n7 n8 n9 n10 hs
            have hs' : [Str.ofString "word", Str.ofString "prime", Str.ofString "k", Str.ofString "steps", Str.ofString "a", Str.ofString "b"].contains z = false := hs
            simp only [kstB, n1, n2, n3, n4, n5, n6, n7, n8, n9, n10, if_false, hs', Bool.false_eq_true, List.contains_nil]
          case nn => first | exact N20 | exact fun p hp => N20 p (.tail _ hp)
end
end Mine
end
-- part C5
section
open PySem PySem.W PyProof.Rows
namespace Mine
section
local macro_rules | `(tactic| walk_at "call ref") => `(tactic| (k_here; (first | refine' Ctr.use (rest_c _ _ _ _ _) ?k1 ?k2 ?k3 ?k4 ?k5 ?kK ?kp ?kd ?ku ?_ | refine' Ctr.use (iseof_c _ _ _) ?k1 ?k2 ?k3 ?k4 ?k5 ?kK ?kp ?kd ?ku ?_); (case k1 => k_asm); (case k2 => k_asm); (case k3 => k_asm); (case k4 => k_asm); (case k5 => k_asm); (case kK => first | exact rfl | assumption); (case kp => first | exact trivial | k_extra "pre" | assumption | omega); (case kd => ktr_room); (case ku => ktr_units); intro t9 h9 tk9 F9 N9; (try dsimp only); (try k_fold)))
local macro_rules | `(tactic| walk_at "exec While UnaryOp cons nil") => `(tactic| (k_while_given ["a!", "b!"] (fun a₀ b₀ script a b => 0 ≤ a ∧ 0 ≤ b ∧ Builtin.Int.intBits a ≤ 100000 ∧ Builtin.Int.intBits b ≤ 100000 ∧ sharedI a b = sharedI a₀ b₀) (fun a₀ b₀ script a b => Builtin.Int.intBits b) "a" "b"))
set_option maxRecDepth 100000 in
set_option maxHeartbeats 8000000 in
theorem shared_c (w : World) (x y : Int) (t u : Tok) : Ctr 4 w 178 (0 ≤ x ∧ 0 ≤ y ∧ Builtin.Int.intBits x ≤ 100000 ∧ Builtin.Int.intBits y ≤ 100000) [.int x t, .int y u] (fun t => .int (sharedI x y) t) := by
  unfold Ctr
  intro pgm loose mean mg mb dp un gd cn cs a ccd cl outer A₀ base h₀ L m news s Q E B F X N T hk hpre hd hu hret
  obtain ⟨hx, hy, hbx, hby⟩ := hpre
  dsimp only [CbRet] at hret
  have fill : PySem.Challenge.rw_tr0044_01 = PySem.Challenge.rw_tr0044_01 ∧ Mine.hd.heap_1 = Mine.hd.heap_1 := by
    k_fill
    exact ⟨rfl, rfl⟩
  clear fill
  refine wpAny_call ?_
  k_dflt cell_enter
  k_with_none
  k_with "state" => exact shared_state (by assumption) (by assumption) (by assumption) (by assumption) (by assumption) (by assumption)
  k_with "measure" => exact shared_less (by assumption) (by assumption) (by assumption)
  k_with "pre" => first | exact shared_pre (by assumption) (by assumption) (by assumption) (by assumption)
  k_steps
  exact cb_retI hret ((shared_end (by assumption) (by assumption)).symm.trans (by assumption)) (by k_asm) (by k_asm)
end
end Mine
end
-- part F1
section
open PySem PySem.W PyProof.Rows PySem.Flt
namespace Mine
section
variable {prog : Program} {w : World} {A : Around} {E : Value → Shared → Prop} {s : Shared} {Q : Value → Shared → Prop} {h₀ : Heap} {L : Addr} {m : Str → Option Value} {news : List (Addr × Obj)}
theorem floats3 {a b c : UInt64} {t u x : Tok} {i : Nat} {v : Value} (h : (#[Value.float a t, Value.float b u, Value.float c x] : Array Value)[i]? = some v) : ∃ tk, v = .float ([a, b, c].getD i 0) tk := by
  match i with
  | 0 => simp at h; exact ⟨t, h.symm⟩
  | 1 => simp at h; exact ⟨u, h.symm⟩
  | 2 => simp at h; exact ⟨x, h.symm⟩
  | n + 3 => simp at h
theorem max3_floats {a b c : UInt64} {t u x : Tok} (hh : A.handled = none) (F : Fr h₀ L s.heap m) (N : News h₀ L s.heap news)
    (h : ∀ h' tk t', Fr h₀ L h' m → News h₀ L h' news → Q (.float (maxOfBits [a, b, c]) t') { s with heap := h', toks := tk }) : wpAny (model prog w) A (call (.builtin "max") [.float a t, .float b u, .float c x]) Q E s := by
  have hT : (s.heap.push { cls := .type "tuple", data := .seq #[.float a t, .float b u, .float c x] }).IsTuple s.heap.objs.size #[.float a t, .float b u, .float c x] := ⟨_, Heap.get?_push_size _ rfl, rfl, 0, rfl⟩
  refine call_max_three (wpAny_pyIter_tuple hT ?_)
  have hsz : (s.heap.push { cls := .type "tuple", data := .seq #[.float a t, .float b u, .float c x] }).objs.size = s.heap.objs.size + 1 := Heap.size_push ..
  refine ⟨_, [_, s.heap.objs.size], [_], _, _, _, fun i j => gtB ([a, b, c].getD i 0) ([a, b, c].getD j 0), rfl, Walks.tuple (A := A.in1) hh _ s.heap.objs.size (by rw [hsz]; exact Nat.ne_of_lt (Nat.lt_succ_self _)) #[.float a t, .float b u, .float c x],
    ⟨⟨_, Heap.get?_push_size _ rfl, rfl, rfl⟩, hT.push _⟩, fun d hd => ?_, by simp, fun i j vi vj s Q E hi hj h => ?_, fun v h' tk hP hk => ?_⟩
  · show d < ((s.heap.push _).push _).objs.size
    rw [Heap.size_push, hsz]
    rcases List.mem_cons.mp hd with rfl | hd
    · rw [hsz]; exact Nat.lt_succ_self _
    · rcases List.mem_cons.mp hd with rfl | hd
      · exact Nat.lt_succ_of_lt (Nat.lt_succ_self _)
      · cases hd
  · obtain ⟨t1, rfl⟩ := floats3 hi
    obtain ⟨t2, rfl⟩ := floats3 hj
    exact AutoFloatOps.gt_0 (by rw [cmp_gt]; exact h)
  · have hold : ∀ d o, s.heap.get? d = some o → h'.get? d = some o := fun d o e => by
      refine hk d o (fun hm => ?_) (Heap.get?_push_of_some _ (Heap.get?_push_of_some _ e))
      rcases List.mem_cons.mp hm with e1 | hm
      · have := Heap.lt_size e; rw [e1, hsz] at this; exact Nat.lt_irrefl _ (Nat.lt_of_succ_lt this)
      · cases hm
    obtain ⟨t3, rfl⟩ := floats3 hP
    have e2 := argBest_bits gtB [a, b, c] 2 (by simp)
    have e3 : (#[Value.float a t, Value.float b u, Value.float c x] : Array Value).size - 1 = 2 := by simp
    rw [e3, e2]
    exact h h' tk t3 (F.grownK hold) (N.grown hold)
theorem min3_floats {a b c : UInt64} {t u x : Tok} (hh : A.handled = none) (F : Fr h₀ L s.heap m) (N : News h₀ L s.heap news)
    (h : ∀ h' tk t', Fr h₀ L h' m → News h₀ L h' news → Q (.float (minOfBits [a, b, c]) t') { s with heap := h', toks := tk }) : wpAny (model prog w) A (call (.builtin "min") [.float a t, .float b u, .float c x]) Q E s := by
  have hT : (s.heap.push { cls := .type "tuple", data := .seq #[.float a t, .float b u, .float c x] }).IsTuple s.heap.objs.size #[.float a t, .float b u, .float c x] := ⟨_, Heap.get?_push_size _ rfl, rfl, 0, rfl⟩
  refine call_min_three (wpAny_pyIter_tuple hT ?_)
  have hsz : (s.heap.push { cls := .type "tuple", data := .seq #[.float a t, .float b u, .float c x] }).objs.size = s.heap.objs.size + 1 := Heap.size_push ..
  refine ⟨_, [_, s.heap.objs.size], [_], _, _, _, fun i j => ltB ([a, b, c].getD i 0) ([a, b, c].getD j 0), rfl, Walks.tuple (A := A.in1) hh _ s.heap.objs.size (by rw [hsz]; exact Nat.ne_of_lt (Nat.lt_succ_self _)) #[.float a t, .float b u, .float c x],
    ⟨⟨_, Heap.get?_push_size _ rfl, rfl, rfl⟩, hT.push _⟩, fun d hd => ?_, by simp, fun i j vi vj s Q E hi hj h => ?_, fun v h' tk hP hk => ?_⟩
  · show d < ((s.heap.push _).push _).objs.size
    rw [Heap.size_push, hsz]
    rcases List.mem_cons.mp hd with rfl | hd
    · rw [hsz]; exact Nat.lt_succ_self _
    · rcases List.mem_cons.mp hd with rfl | hd
      · exact Nat.lt_succ_of_lt (Nat.lt_succ_self _)
      · cases hd
  · obtain ⟨t1, rfl⟩ := floats3 hi
    obtain ⟨t2, rfl⟩ := floats3 hj
    exact AutoFloatOps.lt_0 h
  · have hold : ∀ d o, s.heap.get? d = some o → h'.get? d = some o := fun d o e => by
      refine hk d o (fun hm => ?_) (Heap.get?_push_of_some _ (Heap.get?_push_of_some _ e))
      rcases List.mem_cons.mp hm with e1 | hm
      · have := Heap.lt_size e; rw [e1, hsz] at this; exact Nat.lt_irrefl _ (Nat.lt_of_succ_lt this)
      · cases hm
    obtain ⟨t3, rfl⟩ := floats3 hP
    have e2 := argBest_bits ltB [a, b, c] 2 (by simp)
    have e3 : (#[Value.float a t, Value.float b u, Value.float c x] : Array Value).size - 1 = 2 := by simp
    rw [e3, e2]
    exact h h' tk t3 (F.grownK hold) (N.grown hold)
end
end Mine
end
-- part FB
section
open PySem PySem.W PyProof.Rows
namespace Mine
section

def CtrT (d : Nat) (w : World) (f : Addr) (pre : Prop) (vs : List Value) (x y z : UInt64) : Prop :=
  ∀ (p : Program) (loose : List Str) (mean : ExcName → Option Value) (mg mb : Str → Option Value) (dp un : Nat) (gd : Option (List Code)) (cn : Str) (cs : Scope) (a : Addr) (ccd : Value) (cl : List (Str × Addr)) (outer : List Env) (A₀ : Around) (base h₀ : Heap) (L : Addr) (m : Str → Option Value) (news : List (Addr × Obj)) (s : Shared) (Q E : Value → Shared → Prop),
    Below A₀ base outer h₀ → Fr h₀ L s.heap m → (Mine.hd.heap_1 w.params).In h₀ → News h₀ L s.heap news → Top p loose mean mg mb h₀ → cs.kind = .function →
    pre → dp + d < recursionLimit → un + 8 * d < cLine → (∀ (D : Addr) (t1 t2 t3 : Tok) (c : Nat) (h' : Heap) (tk' : Nat), Fr h₀ L h' m → News h₀ L h' ((D, ({ cls := .type "tuple", data := .seq #[.float x t1, .float y t2, .float z t3] c } : Obj)) :: news) → (∀ p ∈ news, p.1 < D) → Q (.ref D) { s with heap := h', toks := tk' }) →
      wpAny (model PySem.Challenge.pw_tr0044_01 w) (ktrTop dp un gd cn cs L a ccd cl outer) (call (.ref f) vs) Q E s
theorem CtrT.use {d : Nat} {w : World} {f : Addr} {pre : Prop} {vs : List Value} {x y z : UInt64} (C : CtrT d w f pre vs x y z) {p : Program} {loose : List Str} {mean : ExcName → Option Value} {mg mb : Str → Option Value} {dp un : Nat} {gd : Option (List Code)} {cn : Str} {cs : Scope} {a : Addr} {ccd : Value} {cl : List (Str × Addr)} {outer : List Env} {A₀ : Around} {base h₀ : Heap} {L : Addr} {m : Str → Option Value} {news : List (Addr × Obj)} {s : Shared} {Q E : Value → Shared → Prop}
    (B : Below A₀ base outer h₀) (F : Fr h₀ L s.heap m) (X : (Mine.hd.heap_1 w.params).In h₀) (N : News h₀ L s.heap news) (T : Top p loose mean mg mb h₀) (hk : cs.kind = .function)
    (hp : pre) (hd : dp + d < recursionLimit) (hu : un + 8 * d < cLine) (ret : ∀ (D : Addr) (t1 t2 t3 : Tok) (c : Nat) (h' : Heap) (tk' : Nat), Fr h₀ L h' m → News h₀ L h' ((D, ({ cls := .type "tuple", data := .seq #[.float x t1, .float y t2, .float z t3] c } : Obj)) :: news) → (∀ p ∈ news, p.1 < D) → Q (.ref D) { s with heap := h', toks := tk' }) :
    wpAny (model PySem.Challenge.pw_tr0044_01 w) (ktrTop dp un gd cn cs L a ccd cl outer) (call (.ref f) vs) Q E s :=
  C p loose mean mg mb dp un gd cn cs a ccd cl outer A₀ base h₀ L m news s Q E B F X N T hk hp hd hu ret
theorem ctrT_ret {x y z x' y' z' : UInt64} {h₀ : Heap} {L : Addr} {m : Str → Option Value} {news : List (Addr × Obj)} {s : Shared} {Q : Value → Shared → Prop} (hret : ∀ (D : Addr) (t1 t2 t3 : Tok) (c : Nat) (h' : Heap) (tk' : Nat), Fr h₀ L h' m → News h₀ L h' ((D, ({ cls := .type "tuple", data := .seq #[.float x t1, .float y t2, .float z t3] c } : Obj)) :: news) → (∀ p ∈ news, p.1 < D) → Q (.ref D) { s with heap := h', toks := tk' })
    {D : Addr} {t1 t2 t3 : Tok} {c : Nat} {h' : Heap} {tk' : Nat} (F : Fr h₀ L h' m) (N : News h₀ L h' ((D, ({ cls := .type "tuple", data := .seq #[.float x' t1, .float y' t2, .float z' t3] c } : Obj)) :: news)) (l : ∀ p ∈ news, p.1 < D) (e1 : x' = x) (e2 : y' = y) (e3 : z' = z) : Q (.ref D) { s with heap := h', toks := tk' } := by
  subst e1; subst e2; subst e3
  exact hret D t1 t2 t3 c h' tk' F N l
def hW (x : UInt64) : Int := Flt.toInt Float64.truncOf (Float64.mul x 4618441417868443648)
def hI (x : UInt64) : Int := (hW x).fmod 6
def hF (x : UInt64) : UInt64 := Float64.sub (Float64.mul x 4618441417868443648) (Float64.ofInt (hW x))
def hP : UInt64 := Float64.mul 4607182418800017408 (Float64.sub 4607182418800017408 4607182418800017408)
def hQ (x : UInt64) : UInt64 := Float64.mul 4607182418800017408 (Float64.sub 4607182418800017408 (Float64.mul 4607182418800017408 (hF x)))
def hT (x : UInt64) : UInt64 := Float64.mul 4607182418800017408 (Float64.sub 4607182418800017408 (Float64.mul 4607182418800017408 (Float64.sub 4607182418800017408 (hF x))))
def pick6 (i : Int) (a b c d e f : UInt64) : UInt64 := if i = 0 then a else if i = 1 then b else if i = 2 then c else if i = 3 then d else if i = 4 then e else f
def hsvR (x : UInt64) : UInt64 := pick6 (hI x) 4607182418800017408 (hQ x) hP hP (hT x) 4607182418800017408
def hsvG (x : UInt64) : UInt64 := pick6 (hI x) (hT x) 4607182418800017408 4607182418800017408 (hQ x) hP hP
def hsvB (x : UInt64) : UInt64 := pick6 (hI x) hP hP (hT x) 4607182418800017408 4607182418800017408 (hQ x)
def hOk (x : UInt64) : Bool := !Float64.isNaN (Float64.mul x 4618441417868443648) && (!Float64.isInf (Float64.mul x 4618441417868443648) && decide ((hW x).natAbs < 1000))
theorem hOk_nan {x : UInt64} (h : hOk x = true) (k : Float64.isNaN (Float64.mul x 4618441417868443648) = true) : False := by
  unfold hOk at h; rw [k] at h; cases h
theorem hOk_inf {x : UInt64} (h : hOk x = true) (k : Float64.isInf (Float64.mul x 4618441417868443648) = true) : False := by
  unfold hOk at h; rw [k] at h; simp at h
theorem hOk_big {x : UInt64} (h : hOk x = true) (k : 2 ^ 1024 - 2 ^ 970 ≤ (Flt.toInt Float64.truncOf (Float64.mul x 4618441417868443648)).natAbs) : False := by
  unfold hOk at h
  simp only [Bool.and_eq_true, decide_eq_true_eq] at h
  have h3 := h.2.2
  unfold hW at h3
  have : 1000 < 2 ^ 1024 - 2 ^ 970 := by decide +kernel
  exact Nat.lt_irrefl _ (Nat.lt_of_lt_of_le (Nat.lt_trans h3 this) k)
theorem pick0 {i : Int} {a b c d e f : UInt64} (h : i = 0) : a = pick6 i a b c d e f := by subst h; rfl
theorem pick1 {i : Int} {a b c d e f : UInt64} (h : i = 1) : b = pick6 i a b c d e f := by subst h; rfl
theorem pick2 {i : Int} {a b c d e f : UInt64} (h : i = 2) : c = pick6 i a b c d e f := by subst h; rfl
theorem pick3 {i : Int} {a b c d e f : UInt64} (h : i = 3) : d = pick6 i a b c d e f := by subst h; rfl
theorem pick4 {i : Int} {a b c d e f : UInt64} (h : i = 4) : e = pick6 i a b c d e f := by subst h; rfl
theorem pick5 {i : Int} {a b c d e f : UInt64} (h : i = 5) : f = pick6 i a b c d e f := by subst h; rfl
theorem hI_six {i : Int} (h0 : i.fmod 6 ≠ 0) (h1 : i.fmod 6 ≠ 1) (h2 : i.fmod 6 ≠ 2) (h3 : i.fmod 6 ≠ 3) (h4 : i.fmod 6 ≠ 4) (h5 : i.fmod 6 ≠ 5) : False := by
  rw [Int.fmod_eq_emod_of_nonneg _ (by decide)] at *
  omega
def rX (x y z : UInt64) : UInt64 := Flt.maxOfBits [x, y, z]
def rN (x y z : UInt64) : UInt64 := Flt.minOfBits [x, y, z]
def rD (x y z : UInt64) : UInt64 := Float64.sub (rX x y z) (rN x y z)
def rC0 (x y z : UInt64) : Bool := Float64.cmp (rN x y z) (rX x y z) == some Ordering.eq
def rC1 (x y z : UInt64) : Bool := Float64.cmp x (rX x y z) == some Ordering.eq
def rC2 (x y z : UInt64) : Bool := Float64.cmp y (rX x y z) == some Ordering.eq
def rE (a b : UInt64) : UInt64 := (Float64.divmod (Float64.div (Float64.sub a b) 4618441417868443648) 4607182418800017408).snd
def rH (x y z : UInt64) : UInt64 := cond (rC0 x y z) 0 (cond (rC1 x y z) (rE (Float64.div (Float64.sub (rX x y z) z) (rD x y z)) (Float64.div (Float64.sub (rX x y z) y) (rD x y z)))
  (cond (rC2 x y z) (rE (Float64.add 4611686018427387904 (Float64.div (Float64.sub (rX x y z) x) (rD x y z))) (Float64.div (Float64.sub (rX x y z) z) (rD x y z)))
    (rE (Float64.add 4616189618054758400 (Float64.div (Float64.sub (rX x y z) y) (rD x y z))) (Float64.div (Float64.sub (rX x y z) x) (rD x y z)))))
def rS (x y z : UInt64) : UInt64 := cond (rC0 x y z) 0 (Float64.div (rD x y z) (rX x y z))
def rOk (x y z : UInt64) : Bool := !Float64.isZero (rX x y z) && !Float64.isZero (rD x y z)
theorem rOk_x {x y z : UInt64} (h : rOk x y z = true) (k : Float64.isZero (Flt.maxOfBits [x, y, z]) = true) : False := by
  unfold rOk rX at h; rw [k] at h; simp at h
theorem rOk_d {x y z : UInt64} (h : rOk x y z = true) (k : Float64.isZero (Float64.sub (Flt.maxOfBits [x, y, z]) (Flt.minOfBits [x, y, z])) = true) : False := by
  unfold rOk rD rX rN at h; rw [k] at h; simp at h
theorem condT {b : Bool} {x y : UInt64} (h : b = true) : x = cond b x y := by subst h; rfl
def hue (o : Int) : UInt64 := Float64.ofFrac (decide (o < 0) != decide ((128 : Int) < 0)) o.natAbs (Int.natAbs 128)
def dT (o : Int) : UInt64 := Float64.mul (Float64.ofInt 256) (rH (hsvR (hue o)) (hsvG (hue o)) (hsvB (hue o)))
def dAll (n : Nat) : Bool := hOk (hue (n : Int)) && (rOk (hsvR (hue (n : Int))) (hsvG (hue (n : Int))) (hsvB (hue (n : Int))) && (!Float64.isNaN (dT (n : Int)) && (!Float64.isInf (dT (n : Int)) && (Flt.toInt Float64.truncOf (dT (n : Int)) == ((2 * n % 256 : Nat) : Int)))))
theorem dAll_0 : ∀ n : Fin 64, dAll n.val = true := by decide +kernel
theorem dAll_1 : ∀ n : Fin 64, dAll (n.val + 64) = true := by decide +kernel
theorem dAll_2 : ∀ n : Fin 64, dAll (n.val + 128) = true := by decide +kernel
theorem dAll_3 : ∀ n : Fin 64, dAll (n.val + 192) = true := by decide +kernel
theorem dAll_nat {n : Nat} (h : n < 256) : dAll n = true := by
  by_cases h0 : n < 64
  · exact dAll_0 ⟨n, h0⟩
  · by_cases h1 : n < 128
    · have := dAll_1 ⟨n - 64, by omega⟩
      rwa [show (⟨n - 64, by omega⟩ : Fin 64).val + 64 = n by simp; omega] at this
    · by_cases h2 : n < 192
      · have := dAll_2 ⟨n - 128, by omega⟩
        rwa [show (⟨n - 128, by omega⟩ : Fin 64).val + 128 = n by simp; omega] at this
      · have := dAll_3 ⟨n - 192, by omega⟩
        rwa [show (⟨n - 192, by omega⟩ : Fin 64).val + 192 = n by simp; omega] at this
theorem dAll_int {o : Int} (h0 : 0 ≤ o) (h1 : o < 256) : hOk (hue o) = true ∧ rOk (hsvR (hue o)) (hsvG (hue o)) (hsvB (hue o)) = true ∧ Float64.isNaN (dT o) = false ∧ Float64.isInf (dT o) = false ∧ Flt.toInt Float64.truncOf (dT o) = 2 * o % 256 := by
  have h := dAll_nat (n := o.toNat) (by omega)
  unfold dAll at h
  rw [show ((o.toNat : Nat) : Int) = o by omega] at h
  simp only [Bool.and_eq_true, Bool.not_eq_true', beq_iff_eq] at h
  obtain ⟨a, b, c, d, e⟩ := h
  exact ⟨a, b, c, d, by rw [e]; omega⟩
theorem hue_ok {o : Int} (h0 : 0 ≤ o) (h1 : o < 256) : hOk (hue o) = true := (dAll_int h0 h1).1
theorem rgb_ok {o : Int} (h0 : 0 ≤ o) (h1 : o < 256) : rOk (hsvR (hue o)) (hsvG (hue o)) (hsvB (hue o)) = true := (dAll_int h0 h1).2.1
theorem dT_nan {o : Int} (h0 : 0 ≤ o) (h1 : o < 256) (k : Float64.isNaN (dT o) = true) : False := by rw [(dAll_int h0 h1).2.2.1] at k; cases k
theorem dT_inf {o : Int} (h0 : 0 ≤ o) (h1 : o < 256) (k : Float64.isInf (dT o) = true) : False := by rw [(dAll_int h0 h1).2.2.2.1] at k; cases k
theorem dT_yes {o r : Int} (h0 : 0 ≤ o) (h1 : o < 256) (hr : 256 ≤ r) (hr2 : r < 512) (k : 256 ≤ 2 * o) : Builtin.bitXor (Flt.toInt Float64.truncOf (dT o)) (r - 256) = dblI o r := by
  rw [(dAll_int h0 h1).2.2.2.2]
  unfold dblI dblN
  rw [if_pos (by omega), show 2 * o % 256 = ((2 * o.toNat % 256 : Nat) : Int) by omega, show r - 256 = ((r.toNat - 256 : Nat) : Int) by omega, bitXor_cast]
theorem dT_no {o r : Int} (h0 : 0 ≤ o) (h1 : o < 256) (k : ¬ 256 ≤ 2 * o) : Flt.toInt Float64.truncOf (dT o) = dblI o r := by
  rw [(dAll_int h0 h1).2.2.2.2]
  unfold dblI dblN
  rw [if_neg (by omega)]
  omega
theorem condF {b : Bool} {x y : UInt64} (h : b = false) : y = cond b x y := by subst h; rfl
end
end Mine
end
-- part C10
section
open PySem PySem.W PyProof.Rows
namespace Mine
section
set_option maxRecDepth 100000 in
set_option maxHeartbeats 8000000 in
theorem hsv_c (w : World) (x : UInt64) (t u v : Tok) : CtrT 2 w 35 (hOk x = true) [.float x t, .float 4607182418800017408 u, .float 4607182418800017408 v] (hsvR x) (hsvG x) (hsvB x) := by
  unfold CtrT
  intro pgm loose mean mg mb dp un gd cn cs a ccd cl outer A₀ base h₀ L m news s Q E B F X N T hk hpre hd hu hret
  skip
  have fill : PySem.Challenge.rw_tr0044_01 = PySem.Challenge.rw_tr0044_01 ∧ Mine.hd.heap_1 = Mine.hd.heap_1 := by
    k_fill
    exact ⟨rfl, rfl⟩
  clear fill
  refine wpAny_call ?_
  k_dflt cell_enter
  k_with_none
  k_steps
  · exfalso
    have h1 : (Float64.cmp 4607182418800017408 0 == some Ordering.eq) = false := by decide +kernel
    rename (Float64.cmp 4607182418800017408 0 == some Ordering.eq) = true => h2
    rw [h1] at h2
    cases h2
  · exact (hOk_nan hpre (by assumption)).elim
  · exact (hOk_inf hpre (by assumption)).elim
  · exact (hOk_big hpre (by assumption)).elim
  · exact ctrT_ret hret (by k_asm) (by k_asm) (by assumption) (pick0 (i := hI x) (by assumption)) (pick0 (i := hI x) (by assumption)) (pick0 (i := hI x) (by assumption))
  · exact ctrT_ret hret (by k_asm) (by k_asm) (by assumption) (pick1 (i := hI x) (by assumption)) (pick1 (i := hI x) (by assumption)) (pick1 (i := hI x) (by assumption))
  · exact ctrT_ret hret (by k_asm) (by k_asm) (by assumption) (pick2 (i := hI x) (by assumption)) (pick2 (i := hI x) (by assumption)) (pick2 (i := hI x) (by assumption))
  · exact ctrT_ret hret (by k_asm) (by k_asm) (by assumption) (pick3 (i := hI x) (by assumption)) (pick3 (i := hI x) (by assumption)) (pick3 (i := hI x) (by assumption))
  · exact ctrT_ret hret (by k_asm) (by k_asm) (by assumption) (pick4 (i := hI x) (by assumption)) (pick4 (i := hI x) (by assumption)) (pick4 (i := hI x) (by assumption))
  · exact ctrT_ret hret (by k_asm) (by k_asm) (by assumption) (pick5 (i := hI x) (by assumption)) (pick5 (i := hI x) (by assumption)) (pick5 (i := hI x) (by assumption))
  · exact (hI_six (by assumption) (by assumption) (by assumption) (by assumption) (by assumption) (by assumption)).elim
end
end Mine
end
-- part C11
section
open PySem PySem.W PyProof.Rows
namespace Mine
section

local macro_rules | `(tactic| walk_at "no key at all") => `(tactic| skip)
local macro_rules | `(tactic| walk_at "call builtin:max") => `(tactic| (k_here; refine' max3_floats ?k0 ?k1 ?k2 ?_; (case k0 => with_unfolding_all rfl); (case k1 => k_asm); (case k2 => k_asm); intro h' tk' t' F' N'))
local macro_rules | `(tactic| walk_at "call builtin:min") => `(tactic| (k_here; refine' min3_floats ?k0 ?k1 ?k2 ?_; (case k0 => with_unfolding_all rfl); (case k1 => k_asm); (case k2 => k_asm); intro h' tk' t' F' N'))
set_option maxRecDepth 100000 in
set_option maxHeartbeats 8000000 in
theorem rgb_c (w : World) (x y z : UInt64) (t u v : Tok) : CtrT 2 w 28 (rOk x y z = true) [.float x t, .float y u, .float z v] (rH x y z) (rS x y z) (rX x y z) := by
  unfold CtrT
  intro pgm loose mean mg mb dp un gd cn cs a ccd cl outer A₀ base h₀ L m news s Q E B F X N T hk hpre hd hu hret
  skip
  have fill : PySem.Challenge.rw_tr0044_01 = PySem.Challenge.rw_tr0044_01 ∧ Mine.hd.heap_1 = Mine.hd.heap_1 := by
    k_fill
    exact ⟨rfl, rfl⟩
  clear fill
  refine wpAny_call ?_
  k_dflt cell_enter
  k_with_none
  k_steps
  · exact ctrT_ret hret (by k_asm) (by k_asm) (by assumption) (condT (b := rC0 x y z) (by assumption)) (condT (b := rC0 x y z) (by assumption)) rfl
  · exact (rOk_x hpre (by assumption)).elim
  · exact (rOk_d hpre (by assumption)).elim
  · exact ctrT_ret hret (by k_asm) (by k_asm) (by assumption) ((condT (b := rC1 x y z) (by assumption)).trans (condF (b := rC0 x y z) (by assumption))) (condF (b := rC0 x y z) (by assumption)) rfl
  · exact ctrT_ret hret (by k_asm) (by k_asm) (by assumption) (((condT (b := rC2 x y z) (by assumption)).trans (condF (b := rC1 x y z) (by assumption))).trans (condF (b := rC0 x y z) (by assumption))) (condF (b := rC0 x y z) (by assumption)) rfl
  · exact ctrT_ret hret (by k_asm) (by k_asm) (by assumption) (((condF (b := rC2 x y z) (by assumption)).trans (condF (b := rC1 x y z) (by assumption))).trans (condF (b := rC0 x y z) (by assumption))) (condF (b := rC0 x y z) (by assumption)) rfl
end
end Mine
end
-- part C9
section
open PySem PySem.W PyProof.Rows
namespace Mine
section
local macro_rules | `(tactic| walk_at "call ref") => `(tactic| (k_here; (first | refine' CtrT.use (hsv_c _ _ _ _ _) ?k1 ?k2 ?k3 ?k4 ?k5 ?kK ?kp ?kd ?ku ?_ | refine' CtrT.use (rgb_c _ _ _ _ _ _ _) ?k1 ?k2 ?k3 ?k4 ?k5 ?kK ?kp ?kd ?ku ?_); (case k1 => k_asm); (case k2 => k_asm); (case k3 => k_asm); (case k4 => k_asm); (case k5 => k_asm); (case kK => first | exact rfl | assumption); (case kp => first | exact trivial | k_extra "pre" | assumption | omega); (case kd => ktr_room); (case ku => ktr_units); intro D9 t19 t29 t39 c9 h9 tk9 F9 N9 l9; (try dsimp only); (try k_fold)))
local macro_rules | `(tactic| walk_at "call ref") => `(tactic| (k_here; (first | refine' Ctr.use (isnon_c _ _ _) ?k1 ?k2 ?k3 ?k4 ?k5 ?kK ?kp ?kd ?ku ?_); (case k1 => k_asm); (case k2 => k_asm); (case k3 => k_asm); (case k4 => k_asm); (case k5 => k_asm); (case kK => first | exact rfl | assumption); (case kp => first | exact trivial | k_extra "pre" | assumption | omega); (case kd => ktr_room); (case ku => ktr_units); intro t9 h9 tk9 F9 N9; (try dsimp only); (try k_fold)))
set_option maxRecDepth 100000 in
set_option maxHeartbeats 8000000 in
theorem dbl_c (w : World) (o r : Int) (t u : Tok) : Ctr 4 w 164 (0 ≤ o ∧ o < 256 ∧ 256 ≤ r ∧ r < 512) [.int o t, .int r u] (fun t => .int (dblI o r) t) := by
  unfold Ctr
  intro pgm loose mean mg mb dp un gd cn cs a ccd cl outer A₀ base h₀ L m news s Q E B F X N T hk hpre hd hu hret
  obtain ⟨ho, ho2, hr, hr2⟩ := hpre
  dsimp only [CbRet] at hret
  have fill : PySem.Challenge.rw_tr0044_01 = PySem.Challenge.rw_tr0044_01 ∧ Mine.hd.heap_1 = Mine.hd.heap_1 := by
    k_fill
    exact ⟨rfl, rfl⟩
  clear fill
  refine wpAny_call ?_
  k_dflt cell_enter
  k_with_none
  k_with "pre" => first | exact hue_ok ho ho2 | exact rgb_ok ho ho2
  k_steps
  · exact (dT_nan ho ho2 (by assumption)).elim
  · exact (dT_inf ho ho2 (by assumption)).elim
  · exact cb_retI hret (dT_yes ho ho2 hr hr2 (by assumption)) (by k_asm) (by first | k_asm | (refine' cb_drop ?cbN ?cbS; (case cbN => assumption); (case cbS => kcj_all)))
  · exact cb_retI hret (dT_no ho ho2 (by assumption)) (by k_asm) (by first | k_asm | (refine' cb_drop ?cbN ?cbS; (case cbN => assumption); (case cbS => kcj_all)))
end
end Mine
end
-- part L0
section
open PySem PySem.W PySem.Spec PySem.Calls PyProof.Rows
set_option maxRecDepth 100000
namespace Mine
def EndB (c : ClaimW) (args : List WData) (s₁ : Shared) (res : Result) (s' : Shared) : Prop :=
  (∃ b, res = .ok (.ret (.bool b)) ∧ c.post args (.bool b) args = true) ∧ (∀ b o, s₁.heap.get? b = some o → s'.heap.get? b = some o) ∧ s'.os = s₁.os ∧ AllBare s'.gens
theorem kn_postG {M : Model} {A : Around} {cd : Code} {s s₁ : Shared} {cw : ClaimW} {cl : Str → Option Addr} {mean : ExcName → Option Value} {args : List WData} {tabs : List (Addr × Addr)} (hT : TabsAt tabs s₁.heap) (hr : ∀ a x, cw.raises a x = false)
    (h : codeAny M A cd (fun r s' => EndB cw args { s₁ with heap := ghostOf s₁.heap tabs } r s' ∧ GrownAll tabs s'.heap) s) : codeAny M A cd (GoodWG cw cl mean args s₁) s :=
  codeAny_mono h fun r s' ⟨⟨⟨b, hb, hp⟩, hk, hos, hg⟩, hgr⟩ => by
    have keep : ∀ b o, b ∉ tabs.map (·.2) → s₁.heap.get? b = some o → s'.heap.get? b = some o := fun b o hb e => hk b o (ghost_ne e hb)
    have grown : ∀ b o, b ∈ tabs.map (·.2) → s₁.heap.get? b = some o → isCodeTable s₁.heap b ∧ o = tabObj #[] ∧ ∃ ps, s'.heap.get? b = some (tabObj ps) := fun b o hb e => by
      obtain ⟨q, hq, rfl⟩ := List.mem_map.mp hb
      have e2 := (hT q hq).2
      rw [e] at e2
      exact ⟨((hT q hq).1.tab (hT q hq).2).isCodeTable, Option.some.inj e2, hgr.get q hq⟩
    refine ⟨.inl ⟨.bool b, .bool b, [], hb, fun _ => hr _ _, .bool b, hp, fun _ => ⟨.nil, fun _ ha => nomatch ha⟩⟩, ⟨fun b o e => ?_, fun b o e => ?_⟩, hos, hg⟩
    · by_cases hb : b ∈ tabs.map (·.2)
      · obtain ⟨ht, rfl, ps, hP⟩ := grown b o hb e
        exact .inr (.inl ⟨ht, rfl, #[], ps, rfl, by rw [Array.empty_append]; exact hP⟩)
      · exact .inl (keep b o hb e)
    · by_cases hb : b ∈ tabs.map (·.2)
      · obtain ⟨_, _, ps, hP⟩ := grown b o hb e
        exact ⟨_, hP⟩
      · exact ⟨o, keep b o hb e⟩
end Mine
end
-- part K1
section
open PySem PySem.W PySem.Spec PySem.Calls PyProof.Rows PyProof.Rows.LCg
set_option maxRecDepth 100000
set_option maxHeartbeats 2000000
namespace Mine
theorem newEnv_cell {M : Model} {A : Around} {E : Value → Shared → Prop} {scope : Scope} {x : Str} {env : Env} {globals : Addr} {cl : List (Str × Addr)} {qual : Str} {s : Shared} {Q : Env → Shared → Prop}
    (hcf : ∀ n acc, cellsFrom n scope.names acc = (x, n) :: acc) (hpc : ∀ h, pushCells h scope.names = h.push { cls := .type "cell", data := .cell none })
    (h : Q { scope, locals := s.heap.objs.size, globals, cells := (x, s.heap.objs.size + 1) :: cl, qual, func := none, code := env.code, frame := env.frame, builtins := env.builtins }
      { s with heap := (s.heap.push { cls := .type "dict", data := .dict #[] }).push { cls := .type "cell", data := .cell none } }) :
    wpAny M A (newFunctionEnv scope globals cl [] qual none .none (some env)) Q E s := by
  simp only [newFunctionEnv, Option.isSome_some, if_true]
  refine wpAny_bind (wpAny_alloc ?_)
  refine wpAny_bind (wpAny_layCells _ (fun name kind cells => by cases hkc : kind == NameKind.cell <;> simp [hkc]) _ _ _ _ ?_)
  rw [hcf, hpc]
  dsimp only
  rw [Heap.size_push]
  refine wpAny_bind ?_
  rw [List.forIn_nil]
  exact wpAny_pure (wpAny_pure h)
abbrev cLed (I : Addr) (oI : Obj) (K : Addr) (oK : Obj) (C : Addr) (oC : Obj) (D : Addr) (ys : List Value) (news : List (Addr × Obj)) : List (Addr × Obj) := (I, oI) :: (K, oK) :: (C, oC) :: (D, lst ys) :: news
/-- the source and the turns of a filtered comprehension over a range whose target is a cell -/
def CellSrc (prog : Program) (w : World) (A : Around) (h₀ : Heap) (L : Addr) (m : Str → Option Value) (env : Env) (ct : Expr) (x : Str) (scope : Scope) (cl : List (Str × Addr)) (y : Str) (Q : Flow → Shared → Prop) (xv : Value) (s₁ : Shared) : Prop :=
  ∃ r a b t u v n news p, xv = .ref r ∧ A.handled = none ∧ Fr h₀ L s₁.heap m ∧ News h₀ L s₁.heap news ∧ IsRange s₁.heap r a b 1 t u v ∧ Builtin.Range.small a b 1 = true ∧ Builtin.Range.rangeSize a b 1 = ((n : Nat) : Int) ∧ n ≤ sizeLine ∧
    (∀ (k : Int) (tv : Tok) (I K C D : Addr) (oI oK oC : Obj) (ys : List Value) (h : Heap) (tk : Nat) (E' : Value → Shared → Prop), a ≤ k → k < a + (n : Int) → oK.data = .cell (some (.int k tv)) → Fr h₀ L h m → News h₀ L h (cLed I oI K oK C oC D ys news) →
      (∀ q ∈ news, q.1 < I) → (I < D ∧ D < C ∧ C < K) →
      wpAny (model prog w) A (isTrue ct (compEnvC scope ((x, K) :: cl) C env) (eval ct (compEnvC scope ((x, K) :: cl) C env)))
        (fun b s' => b = p k ∧ ∃ h' tk', s' = { s₁ with heap := h', toks := tk' } ∧ Fr h₀ L h' m ∧ News h₀ L h' (cLed I oI K oK C oC D ys news)) E' { s₁ with heap := h, toks := tk }) ∧
    (∀ (D : Addr) (ys : List Value) (h : Heap) (tk : Nat), IntsAre ys ((rangeKs a n).filter p) → Fr h₀ L h (fun z => if z = y then some (.ref D) else m z) → News h₀ L h ((D, lst ys) :: news) → (∀ q ∈ news, q.1 < D) → Q .next { s₁ with heap := h, toks := tk })
theorem rangeKs_snoc (a : Int) (i : Nat) : rangeKs a (i + 1) = rangeKs a i ++ [a + (i : Int)] := by
  simp [rangeKs, List.range_succ]
theorem cell_loop {prog : Program} {w : World} {A : Around} {h₀ : Heap} {L : Addr} {m m0 : Str → Option Value} {env : Env} {ct iter : Expr} {x : Str} {pe px : Pos} {scope : Scope} {cl : List (Str × Addr)} {pos : Pos} {s₁ : Shared} {R : Result → Shared → Prop} {I D C K : Addr} {a : Int} {n : Nat} {p : Int → Bool} {news : List (Addr × Obj)} {H : Heap} {tk₀ : Nat} {cv0 : Option Value}
    (hh : A.handled = none) (hord : @LT.lt Nat _ I D ∧ @LT.lt Nat _ D C ∧ @LT.lt Nat _ C K) (hlow : ∀ q ∈ news, @LT.lt Nat _ q.1 I) (hL : @LT.lt Nat _ L I) (fresh : ∀ a, @LE.le Nat _ I a → h₀.get? a = none) (hsz : n ≤ sizeLine)
    (hx : (compEnvC scope ((x, K) :: cl) C env).kindOf x = some .cell) (hkind : scope.kind = .function) (hdb : (x == ("__debug__" : Str)) = false)
    (hI : IsRangeIter H I (a + ((0 : Nat) : Int) * 1) ((n : Int) - ((0 : Nat) : Int)) 1) (hD : H.get? D = some (lst [])) (hC : H.Ns C m0) (hK : H.IsCell K cv0) (F : Fr h₀ L H m) (N : News h₀ L H news)
    (turn : ∀ (k : Int) (tv : Tok) (oI oK oC : Obj) (ys : List Value) (h : Heap) (tk : Nat) (E' : Value → Shared → Prop), a ≤ k → k < a + (n : Int) → oK.data = .cell (some (.int k tv)) → Fr h₀ L h m → News h₀ L h (cLed I oI K oK C oC D ys news) →
      wpAny (model prog w) A (isTrue ct (compEnvC scope ((x, K) :: cl) C env) (eval ct (compEnvC scope ((x, K) :: cl) C env)))
        (fun b s' => b = p k ∧ ∃ h' tk', s' = { s₁ with heap := h', toks := tk' } ∧ Fr h₀ L h' m ∧ News h₀ L h' (cLed I oI K oK C oC D ys news)) E' { s₁ with heap := h, toks := tk })
    (hR : ∀ (ys : List Value) (h : Heap) (tk : Nat) (m' : Str → Option Value), IntsAre ys ((rangeKs a n).filter p) → Fr h₀ L h m → News h₀ L h ((D, lst ys) :: news) → h.Ns C m' → R (.ok .next) { s₁ with heap := h, toks := tk }) :
    codeAny (model prog w) A (.compLoop (.ListComp (.Name x pe) [⟨.Name x px, iter, [ct], 0⟩] scope pos) 0 (.ref I) (.ref D) (compEnvC scope ((x, K) :: cl) C env)) R { s₁ with heap := H, toks := tk₀ } := by
  have W := range_walks (prog := prog) (w := w) (I := I) hh a n
  have nIL : I ≠ L := Nat.ne_of_gt hL
  have nDL : D ≠ L := Nat.ne_of_gt (by omega)
  have nCL : C ≠ L := Nat.ne_of_gt (by omega)
  have nKL : K ≠ L := Nat.ne_of_gt (by omega)
  have nID : I ≠ D := Nat.ne_of_lt (by omega)
  have nIC : I ≠ C := Nat.ne_of_lt (by omega)
  have nIK : I ≠ K := Nat.ne_of_lt (by omega)
  have nDC : D ≠ C := Nat.ne_of_lt (by omega)
  have nDK : D ≠ K := Nat.ne_of_lt (by omega)
  have nCK : C ≠ K := Nat.ne_of_lt (by omega)
  have fI := fresh I (by omega)
  have fD := fresh D (by omega)
  have fC := fresh C (by omega)
  have fK := fresh K (by omega)
  have nn : ∀ q ∈ news, q.1 ≠ I ∧ q.1 ≠ D ∧ q.1 ≠ C ∧ q.1 ≠ K := fun q hq => by have := hlow q hq; refine ⟨?_, ?_, ?_, ?_⟩ <;> exact Nat.ne_of_lt (by omega)
  refine codeAny_compLoop_tests
    (fun k s' => ∃ h' tk i ys m' cv, s' = { s₁ with heap := h', toks := tk } ∧ i ≤ n ∧ k = n + 1 - i ∧ ys.length ≤ i ∧ IsRangeIter h' I (a + (i : Nat) * 1) ((n : Int) - (i : Nat)) 1 ∧ Fr h₀ L h' m ∧ h'.Ns C m' ∧ h'.IsCell K cv ∧ News h₀ L h' ((D, lst ys) :: news) ∧
      IntsAre ys ((rangeKs a i).filter p)) ?_ (n + 1)
    ⟨H, _, 0, [], _, _, rfl, Nat.zero_le _, rfl, Nat.le_refl _, hI, F, hC, hK, List.forall_mem_cons.mpr ⟨⟨hD, nDL, fD⟩, N⟩, .nil⟩
  rintro k s' ⟨h', tk, i, ys, m', cv, rfl, hi, rfl, hyl, hst', F', hn', hc', N', hys⟩
  by_cases hlt : i < n
  · refine W.item i _ _ _ hlt hst' fun v h₂ tk₂ hPv hst₂ hk₂ => ?_
    obtain ⟨tv, rfl⟩ := hPv
    have k2 : ∀ b o, b ≠ I → h'.get? b = some o → h₂.get? b = some o := fun b o hb e => hk₂ b o (by simpa using hb) e
    obtain ⟨o2, hc2, hd2⟩ := hc'
    refine wpAny_assign_Name (wpAny_storeName_cell (c := K) (v₀ := cv) (by exact hkind) hx (by simp [compEnvC]) ⟨o2, k2 _ _ (Ne.symm nIK) hc2, hd2⟩ fun h₃ hc₃ hs₃ => ?_)
    refine wpAny_tests_one ?_
    obtain ⟨oK, heK, hoK⟩ := hc₃
    have hst₃ : IsRangeIter h₃ I (a + ((i + 1 : Nat) : Int) * 1) ((n : Int) - ((i + 1 : Nat) : Int)) 1 := W.frame _ _ _ hst₂ fun b hb o e => hs₃.extBut b o (by rw [List.mem_singleton.mp hb]; exact nIK) e
    have F₂ : Fr h₀ L h₂ m := fr_but F' hk₂ (Ne.symm nIL) fI
    have F₃ : Fr h₀ L h₃ m := F₂.change hs₃ nKL fK
    obtain ⟨oC, heC, hoC⟩ := ns_obj (hn'.at' fun o e => k2 _ o (Ne.symm nIC) e)
    have hI₃ : ∃ oI, h₃.get? I = some oI := ⟨_, hst₃⟩
    obtain ⟨oI, heI⟩ := hI₃
    have N₃ : News h₀ L h₃ (cLed I oI K oK C oC D ys news) := by
      refine List.forall_mem_cons.mpr ⟨⟨heI, nIL, fI⟩, List.forall_mem_cons.mpr ⟨⟨heK, nKL, fK⟩, List.forall_mem_cons.mpr ⟨⟨hs₃.extBut _ _ nCK heC, nCL, fC⟩, List.forall_mem_cons.mpr ⟨⟨hs₃.extBut _ _ nDK (k2 _ _ (Ne.symm nID) (N' _ (.head _)).1), nDL, fD⟩, fun q hq => ?_⟩⟩⟩⟩
      have z := N' q (.tail _ hq)
      exact ⟨hs₃.extBut _ _ (nn q hq).2.2.2 (k2 _ _ (nn q hq).1 z.1), z.2⟩
    refine wpAny_mono (turn (a + (i : Int)) tv oI oK oC ys h₃ _ _ (by omega) (by omega) hoK F₃ N₃) (fun ok s₄ h₄ => ?_) fun _ _ e => e
    obtain ⟨rfl, h₄, tk₄, rfl, F₄, N₄⟩ := h₄
    have zI := (N₄ _ (.head _)).1
    have zK := (N₄ _ (.tail _ (.head _))).1
    have zC := (N₄ _ (.tail _ (.tail _ (.head _)))).1
    have zD := (N₄ _ (.tail _ (.tail _ (.tail _ (.head _))))).1
    have N₄' : News h₀ L h₄ news := fun q hq => N₄ q (.tail _ (.tail _ (.tail _ (.tail _ hq))))
    have hst₄ : IsRangeIter h₄ I (a + ((i + 1 : Nat) : Int) * 1) ((n : Int) - ((i + 1 : Nat) : Int)) 1 := range_st (h₀ := h₀) (L := L) _ _ _ _ news hst₃ heI zI F₄.keep N₄' trivial
    cases hp : p (a + (i : Int)) with
    | true =>
      simp only [if_true]
      refine wpAny_Name (wpAny_loadName_cell (c := K) (by exact hkind) hx (by simp [compEnvC]) ⟨oK, zK, hoK⟩ ?_) hdb
      refine append_at (hsz := by show ys.toArray.size ≤ sizeLine; rw [List.size_toArray]; exact Nat.le_trans (Nat.le_trans hyl hi) hsz) zD fun h₅ hs₅ hD₅ => ?_
      refine ⟨n + 1 - (i + 1), by omega, h₅, tk₄, i + 1, ys ++ [.int (a + (i : Int)) tv], _, _, rfl, hlt, rfl, by rw [List.length_append, List.length_singleton]; exact Nat.succ_le_succ hyl,
        W.frame _ _ _ hst₄ fun b hb o e => hs₅.extBut b o (by rw [List.mem_singleton.mp hb]; exact nID) e, F₄.change hs₅ nDL fD, (hoC.ns zC).sameBut hs₅ (Ne.symm nDC), ⟨oK, hs₅.extBut _ _ (Ne.symm nDK) zK, hoK⟩,
        List.forall_mem_cons.mpr ⟨⟨hD₅.trans (congrArg some (lst_snoc ys _)), nDL, fD⟩, fun q hq => ⟨hs₅.extBut _ _ (nn q hq).2.1 (N₄' q hq).1, (N₄' q hq).2⟩⟩, ?_⟩
      rw [rangeKs_snoc, List.filter_append]
      simp only [List.filter_cons, hp, if_true, List.filter_nil]
      exact IntsAre.append hys (.cons _ _ .nil)
    | false =>
      simp only [Bool.false_eq_true, if_false]
      refine ⟨n + 1 - (i + 1), by omega, h₄, tk₄, i + 1, ys, _, _, rfl, hlt, rfl, Nat.le_succ_of_le hyl, hst₄, F₄, hoC.ns zC, ⟨oK, zK, hoK⟩, List.forall_mem_cons.mpr ⟨⟨zD, nDL, fD⟩, N₄'⟩, ?_⟩
      rw [rangeKs_snoc, List.filter_append]
      simp only [List.filter_cons, hp, Bool.false_eq_true, if_false, List.filter_nil, List.append_nil]
      exact hys
  · obtain rfl : i = n := Nat.le_antisymm hi (Nat.not_lt.mp hlt)
    refine W.done _ _ _ hst' fun h₂ tk₂ hk₂ => ?_
    exact hR ys h₂ tk₂ m' hys (fr_but F' hk₂ (Ne.symm nIL) fI) (news_but N' hk₂ (List.forall_mem_cons.mpr ⟨Ne.symm nID, fun q hq => (nn q hq).1⟩)) (hn'.at' fun o e => hk₂ _ o (by simpa using Ne.symm nIC) e)
theorem cell_comp {prog : Program} {w : World} {A : Around} {E : Value → Shared → Prop} {h₀ : Heap} {L : Addr} {m : Str → Option Value} {env : Env} {ct iter : Expr} {x y : Str} {pe px py : Pos} {scope : Scope} {cl : List (Str × Addr)} {pos spos : Pos} {s : Shared} {Q : Flow → Shared → Prop}
    (_F₀ : Fr h₀ L s.heap m) (hLe : env.locals = L)
    (hsw : swapsWith (.ListComp (.Name x pe) [⟨.Name x px, iter, [ct], 0⟩] scope pos) (some (.Name y py)) spos.line env = pure true)
    (hclos : closureFor scope env = pure cl) (hkind : scope.kind = .function)
    (hnames : ∀ z ∈ scope.names, z.2 = .local → scope.names.lookup z.1 = some .local)
    (hcf : ∀ n acc, cellsFrom n scope.names acc = (x, n) :: acc) (hpc : ∀ h, pushCells h scope.names = h.push { cls := .type "cell", data := .cell none })
    (hx : ∀ c C, (compEnvC scope c C env).kindOf x = some .cell) (hdb : (x == ("__debug__" : Str)) = false)
    (hy : env.kindOf y = some .local) (hp : (env.scope.kind == .class || (env.scope.kind == .module && env.locals != env.globals)) = false)
    (h : wpAny (model prog w) A (eval iter env) (CellSrc prog w A h₀ L m env ct x scope cl y Q) E s)
    (hs : ∀ x, foldedSetIterable iter env x = pure x := by intro _; rfl) :
    wpAny (model prog w) A (exec (.Assign [.Name y py] (.ListComp (.Name x pe) [⟨.Name x px, iter, [ct], 0⟩] scope pos) spos) env) Q E s := by
  subst hLe
  rw [exec_Assign_Name_used _ _ _ _ hsw]
  refine wpAny_bind (wpAny_standAt (wpAny_bind ?_))
  show wpAny _ A (do let _ ← comprehension (.ListComp (.Name x pe) [⟨.Name x px, iter, [ct], 0⟩] scope pos) scope env _ (newList []) false (eval iter env) (some (assign (.Name y py) env))) _ _ s
  refine wpAny_bind (wpAny_mono (wpAny_comprehension_free (use := some (assign (.Name y py) env)) (Q := fun _ s' => Q .next s') rfl hs hclos hkind hnames
    (wpAny_mono h (fun xv s₁ h₁ => ?_) fun _ _ e => e)) (fun _ s' hq => wpAny_pure (wpAny_pure hq)) fun _ _ e => e)
  obtain ⟨r, a, b, t, u, v, n, news, p, rfl, hh, F, N, hr, hsm, hn, hsz, turn, fin⟩ := h₁
  have hlow : ∀ q ∈ news, q.1 < s₁.heap.objs.size := fun q hq => Heap.lt_size (N q hq).1
  have hLlt : env.locals < s₁.heap.objs.size := F.ns.lt
  have fresh₀ : ∀ a, s₁.heap.objs.size ≤ a → h₀.get? a = none := fun a ha => Heap.get?_none_of_le (Nat.le_trans F.above (Nat.le_trans (Nat.le_of_lt hLlt) ha))
  refine wpAny_pyIter_range hr hsm ?_
  refine wpAny_newObj_type ?_
  refine newEnv_cell (x := x) hcf hpc ?_
  dsimp only
  rw [Heap.size_push, Heap.size_push]
  have W := range_walks (prog := prog) (w := w) (I := s₁.heap.objs.size) hh a n
  have q1 : (s₁.heap.push { cls := .type "range_iterator", data := .fields #[rawInt a, rawInt (Builtin.Range.rangeSize a b 1), rawInt 1] }).objs.size = s₁.heap.objs.size + 1 := Heap.size_push ..
  generalize hh1 : s₁.heap.push { cls := .type "range_iterator", data := .fields #[rawInt a, rawInt (Builtin.Range.rangeSize a b 1), rawInt 1] } = H1 at q1 ⊢
  have q2 : (H1.push { cls := .type "list", dict := none, data := .seq ([] : List Value).toArray }).objs.size = s₁.heap.objs.size + 1 + 1 := by rw [Heap.size_push, q1]
  generalize hh2 : H1.push { cls := .type "list", dict := none, data := .seq ([] : List Value).toArray } = H2 at q2 ⊢
  have q3 : (H2.push { cls := .type "dict", data := .dict #[] }).objs.size = s₁.heap.objs.size + 1 + 1 + 1 := by rw [Heap.size_push, q2]
  have hC2 : (H2.push { cls := .type "dict", data := .dict #[] }).Ns H2.objs.size fun _ => none := Heap.Ns.new _ _
  rw [q2] at hC2
  generalize hh3 : H2.push { cls := .type "dict", data := .dict #[] } = H3 at q3 hC2 ⊢
  have hK : (H3.push { cls := .type "cell", data := .cell none }).IsCell (s₁.heap.objs.size + 1 + 1 + 1) none := ⟨_, by rw [← q3]; exact Heap.get?_push_size _ rfl, rfl⟩
  have hC : (H3.push { cls := .type "cell", data := .cell none }).Ns (s₁.heap.objs.size + 1 + 1) fun _ => none := hC2.push _
  have hD : (H3.push { cls := .type "cell", data := .cell none }).get? (s₁.heap.objs.size + 1) = some (lst []) := Heap.get?_push_of_some _ (hh3 ▸ Heap.get?_push_of_some _ (by rw [← q1, ← hh2]; exact Heap.get?_push_size _ rfl))
  have hI : IsRangeIter (H3.push { cls := .type "cell", data := .cell none }) s₁.heap.objs.size (a + ((0 : Nat) : Int) * 1) ((n : Int) - ((0 : Nat) : Int)) 1 := by
    show Heap.get? _ _ = some _
    rw [show a + ((0 : Nat) : Int) * 1 = a by simp, show ((n : Nat) : Int) - ((0 : Nat) : Int) = (n : Int) by simp, ← hn]
    exact Heap.get?_push_of_some _ (hh3 ▸ Heap.get?_push_of_some _ (hh2 ▸ Heap.get?_push_of_some _ (hh1 ▸ Heap.get?_push_size _ rfl)))
  have up : ∀ bb o, s₁.heap.get? bb = some o → (H3.push { cls := .type "cell", data := .cell none }).get? bb = some o := fun bb o e =>
    Heap.get?_push_of_some _ (hh3 ▸ Heap.get?_push_of_some _ (hh2 ▸ Heap.get?_push_of_some _ (hh1 ▸ Heap.get?_push_of_some _ e)))
  have l1 : @LT.lt Nat _ s₁.heap.objs.size (s₁.heap.objs.size + 1) := Nat.lt_succ_self _
  have l2 : @LT.lt Nat _ (s₁.heap.objs.size + 1) (s₁.heap.objs.size + 1 + 1) := Nat.lt_succ_self _
  have l3 : @LT.lt Nat _ (s₁.heap.objs.size + 1 + 1) (s₁.heap.objs.size + 1 + 1 + 1) := Nat.lt_succ_self _
  have nCL : s₁.heap.objs.size + 1 + 1 ≠ env.locals := Nat.ne_of_gt (Nat.lt_succ_of_lt (Nat.lt_succ_of_lt hLlt))
  have fC := fresh₀ (s₁.heap.objs.size + 1 + 1) (by omega)
  generalize H3.push { cls := .type "cell", data := .cell none } = H at hK hC hD hI up ⊢
  rw [q1]
  have loop := fun tk => cell_loop (pe := pe) (px := px) (iter := iter) (pos := pos) (tk₀ := tk) (R := compPost (model prog w) A E (some (assign (.Name y py) env)) (fun _ s' => Q .next s') (.ref (s₁.heap.objs.size + 1)) (s₁.heap.objs.size + 1 + 1)) hh ⟨l1, l2, l3⟩ hlow hLlt fresh₀ hsz (hx _ _) hkind hdb hI hD hC hK (F.keeps up) (N.grown up) (p := p)
    (fun k tv oI oK oC ys h tk E' h1 h2 h3 h4 h5 => turn k tv _ _ _ _ oI oK oC ys h tk E' h1 h2 h3 h4 h5 hlow ⟨l1, l2, l3⟩)
    (fun ys h' tk m' hys F' N' hn' => by
      show wpAny _ A (assign (.Name y py) env (.ref (s₁.heap.objs.size + 1))) _ _ _
      refine wpAny_assign_Name (wpAny_storeName_local hy F'.ns (fun h₂ hn₂ hs₂ => ?_) hp)
      have hL₀ : h₀.get? env.locals = none := Heap.get?_none_of_le F'.above
      have F₂ : Fr h₀ env.locals h₂ (fun z => if z = y then some (.ref (s₁.heap.objs.size + 1)) else m z) := ⟨hn₂, fun b o e => hs₂.extBut b o (fun q => by rw [q, hL₀] at e; cases e) (F'.keep b o e), F'.above⟩
      refine ⟨m', hn'.sameBut hs₂ nCL, fun h'' hs'' => fin _ ys h'' _ hys (F₂.change hs'' nCL fC) (fun q hq => ?_) fun q hq => Nat.lt_succ_of_lt (hlow q hq)⟩
      have z : h₂.get? q.1 = some q.2 := hs₂.extBut _ _ (N' q hq).2.1 (N' q hq).1
      refine ⟨hs''.extBut _ _ ?_ z, (N' q hq).2⟩
      rcases List.mem_cons.mp hq with h | hq
      · rw [h]; exact Nat.ne_of_lt l2
      · exact Nat.ne_of_lt (Nat.lt_trans (hlow q hq) (Nat.lt_trans l1 l2)))
  exact codeAny_compStart_list (loop _) (W.self 0 _ _ _ hI (loop _))
end Mine
end
-- part P3
section
open PySem PySem.W
set_option maxRecDepth 100000
namespace Mine
def allB : Nat → (Nat → Bool) → Bool
  | 0, _ => true
  | n + 1, f => f n && allB n f
theorem allB_get : ∀ (n : Nat) (f : Nat → Bool), allB n f = true → ∀ i, i < n → f i = true
  | 0, _, _, i, hi => absurd hi (Nat.not_lt_zero _)
  | n + 1, f, h, i, hi => by
    rw [allB, Bool.and_eq_true] at h
    rcases Nat.lt_or_ge i n with h1 | h1
    · exact allB_get n f h.2 i h1
    · have : i = n := by omega
      subst this; exact h.1
def chk (rl g per : Nat) : Bool := match primesOf (quot rl g) with
  | none => false
  | some ws => Nat.blt (quot rl g) 512 && (Nat.beq (periodOf ws) per && (ws.all (fun p => primesN.contains p) && (Nat.ble ws.length 9 && (Nat.ble 1 per && (Nat.ble per 1000 && (Nat.beq (leftN per rl g) 0 &&
    allB (per + 1) fun r => !(Nat.ble 2 r) || (!(Nat.beq (per % r) 0) || !(Nat.beq (leftN (per / r) rl g) 0))))))))
def chkRow (q : Nat × List (Nat × Nat)) : Bool := q.2.all (fun e => chk q.1 e.1 e.2) && allB 256 fun j => !(Nat.beq (rest q.1 (2 * j + 1)) 0) || q.2.any fun e => Nat.beq e.1 (2 * j + 1)
def tab0 : List (Nat × List (Nat × Nat)) := [(257, [(1, 8), (3, 8), (5, 8), (15, 8), (17, 4), (51, 4), (85, 2), (255, 1), (257, 1)]), (259, [(1, 63), (7, 63), (109, 3), (259, 1)]), (261, [(1, 30), (19, 15), (261, 1)]), (263, [(1, 127), (3, 127), (253, 1), (263, 1)]), (265, [(1, 217), (11, 31), (47, 7), (265, 1)]), (267, [(1, 42), (3, 21), (5, 21), (87, 2), (249, 1), (267, 1)]), (269, [(1, 93), (3, 93), (7, 31), (9, 31), (37, 3), (111, 3), (251, 1), (269, 1)]), (271, [(1, 217), (13, 31), (59, 7), (271, 1)]), (273, [(1, 12), (7, 12), (21, 6), (107, 3), (273, 1)]), (275, [(1, 127), (3, 127), (241, 1), (275, 1)]), (277, [(1, 14), (3, 14), (5, 14), (13, 14), (23, 7), (57, 7), (81, 2), (243, 1), (277, 1)]), (279, [(1, 15), (25, 5), (31, 15), (279, 1)]), (281, [(1, 127), (3, 127), (247, 1), (281, 1)]), (283, [(1, 51), (283, 1)]), (285, [(1, 255), (285, 1)]), (287, [(1, 84), (3, 42), (5, 21), (7, 28), (9, 14), (11, 12), (15, 21), (27, 7), (29, 6), (39, 3), (45, 7), (49, 4), (83, 2), (105, 3), (245, 1), (287, 1)])]
theorem tab0_ok : tab0.all chkRow = true := by decide +kernel
def tab1 : List (Nat × List (Nat × Nat)) := [(289, [(1, 217), (13, 31), (61, 7), (289, 1)]), (291, [(1, 60), (3, 60), (5, 30), (15, 15), (17, 15), (19, 4), (53, 4), (95, 2), (225, 1), (291, 1)]), (293, [(1, 105), (3, 105), (11, 15), (25, 7), (29, 15), (43, 7), (227, 1), (293, 1)]), (295, [(1, 63), (7, 63), (97, 3), (295, 1)]), (297, [(1, 30), (3, 15), (5, 15), (7, 10), (9, 5), (27, 5), (31, 6), (33, 3), (93, 2), (99, 3), (231, 1), (297, 1)]), (299, [(1, 255), (299, 1)]), (301, [(1, 255), (301, 1)]), (303, [(1, 127), (3, 127), (229, 1), (303, 1)]), (305, [(1, 127), (3, 127), (239, 1), (305, 1)]), (307, [(1, 217), (11, 31), (41, 7), (307, 1)]), (309, [(1, 63), (7, 63), (103, 3), (309, 1)]), (311, [(1, 126), (3, 63), (5, 63), (91, 2), (237, 1), (311, 1)]), (313, [(1, 17), (313, 1)]), (315, [(1, 42), (3, 42), (7, 21), (9, 21), (13, 6), (21, 7), (23, 6), (35, 3), (63, 7), (101, 3), (233, 1), (315, 1)]), (317, [(1, 124), (3, 62), (5, 31), (15, 31), (55, 4), (89, 2), (235, 1), (317, 1)]), (319, [(1, 85), (319, 1)])]
theorem tab1_ok : tab1.all chkRow = true := by decide +kernel
def tab2 : List (Nat × List (Nat × Nat)) := [(321, [(1, 30), (25, 15), (321, 1)]), (323, [(1, 127), (3, 127), (193, 1), (323, 1)]), (325, [(1, 12), (3, 12), (5, 6), (7, 12), (9, 12), (15, 6), (17, 6), (21, 4), (27, 6), (45, 3), (63, 4), (65, 2), (119, 3), (195, 1), (325, 1)]), (327, [(1, 217), (11, 31), (37, 7), (327, 1)]), (329, [(1, 105), (3, 105), (13, 15), (19, 7), (23, 15), (53, 7), (199, 1), (329, 1)]), (331, [(1, 21), (7, 21), (117, 3), (331, 1)]), (333, [(1, 255), (333, 1)]), (335, [(1, 126), (3, 63), (5, 63), (67, 2), (197, 1), (335, 1)]), (337, [(1, 14), (3, 14), (5, 14), (11, 14), (29, 7), (39, 7), (69, 2), (207, 1), (337, 1)]), (339, [(1, 217), (13, 31), (55, 7), (339, 1)]), (341, [(1, 10), (31, 5), (341, 1)]), (343, [(1, 93), (3, 93), (7, 31), (9, 31), (47, 3), (113, 3), (205, 1), (343, 1)]), (345, [(1, 63), (7, 63), (115, 3), (345, 1)]), (347, [(1, 124), (3, 62), (5, 31), (15, 31), (61, 4), (71, 2), (201, 1), (347, 1)]), (349, [(1, 127), (3, 127), (203, 1), (349, 1)]), (351, [(1, 255), (351, 1)])]
theorem tab2_ok : tab2.all chkRow = true := by decide +kernel
def tab3 : List (Nat × List (Nat × Nat)) := [(353, [(1, 93), (3, 93), (7, 31), (9, 31), (41, 3), (123, 3), (223, 1), (353, 1)]), (355, [(1, 255), (355, 1)]), (357, [(1, 255), (357, 1)]), (359, [(1, 56), (3, 28), (5, 28), (13, 8), (15, 14), (17, 7), (23, 4), (51, 7), (57, 4), (75, 2), (221, 1), (359, 1)]), (361, [(1, 255), (361, 1)]), (363, [(1, 35), (3, 35), (11, 5), (29, 5), (31, 7), (33, 7), (217, 1), (363, 1)]), (365, [(1, 18), (3, 9), (5, 9), (73, 2), (219, 1), (365, 1)]), (367, [(1, 30), (7, 15), (19, 6), (21, 15), (121, 3), (367, 1)]), (369, [(1, 255), (369, 1)]), (371, [(1, 30), (3, 15), (5, 15), (7, 30), (9, 15), (25, 6), (27, 15), (43, 3), (79, 2), (125, 3), (209, 1), (371, 1)]), (373, [(1, 127), (3, 127), (211, 1), (373, 1)]), (375, [(1, 85), (375, 1)]), (377, [(1, 124), (3, 62), (5, 31), (15, 31), (59, 4), (77, 2), (215, 1), (377, 1)]), (379, [(1, 85), (379, 1)]), (381, [(1, 21), (7, 7), (11, 21), (13, 21), (35, 7), (49, 7), (127, 3), (381, 1)]), (383, [(1, 127), (3, 127), (213, 1), (383, 1)])]
theorem tab3_ok : tab3.all chkRow = true := by decide +kernel
def tab4 : List (Nat × List (Nat × Nat)) := [(385, [(1, 63), (7, 63), (91, 3), (385, 1)]), (387, [(1, 14), (3, 7), (5, 7), (11, 14), (13, 14), (23, 7), (29, 7), (39, 7), (57, 7), (127, 2), (129, 1), (387, 1)]), (389, [(1, 127), (3, 127), (131, 1), (389, 1)]), (391, [(1, 255), (391, 1)]), (393, [(1, 60), (3, 60), (5, 30), (15, 15), (17, 15), (25, 4), (43, 4), (125, 2), (135, 1), (393, 1)]), (395, [(1, 85), (395, 1)]), (397, [(1, 255), (397, 1)]), (399, [(1, 93), (3, 93), (7, 31), (9, 31), (55, 3), (89, 3), (133, 1), (399, 1)]), (401, [(1, 127), (3, 127), (143, 1), (401, 1)]), (403, [(1, 30), (7, 15), (21, 5), (31, 6), (93, 3), (403, 1)]), (405, [(1, 217), (11, 31), (59, 7), (405, 1)]), (407, [(1, 124), (3, 62), (5, 31), (15, 31), (41, 4), (123, 2), (141, 1), (407, 1)]), (409, [(1, 217), (13, 31), (37, 7), (409, 1)]), (411, [(1, 127), (3, 127), (137, 1), (411, 1)]), (413, [(1, 30), (3, 15), (5, 15), (7, 30), (9, 15), (19, 6), (27, 15), (53, 3), (95, 3), (121, 2), (139, 1), (413, 1)]), (415, [(1, 51), (415, 1)])]
theorem tab4_ok : tab4.all chkRow = true := by decide +kernel
def tab5 : List (Nat × List (Nat × Nat)) := [(417, [(1, 42), (3, 21), (5, 21), (117, 2), (159, 1), (417, 1)]), (419, [(1, 85), (419, 1)]), (421, [(1, 21), (7, 21), (87, 3), (421, 1)]), (423, [(1, 127), (3, 127), (157, 1), (423, 1)]), (425, [(1, 255), (425, 1)]), (427, [(1, 24), (3, 24), (5, 12), (7, 8), (9, 8), (15, 12), (17, 6), (27, 4), (45, 4), (51, 3), (85, 3), (119, 2), (153, 1), (427, 1)]), (429, [(1, 35), (3, 35), (13, 5), (23, 5), (31, 7), (33, 7), (155, 1), (429, 1)]), (431, [(1, 217), (11, 31), (61, 7), (431, 1)]), (433, [(1, 51), (433, 1)]), (435, [(1, 127), (3, 127), (145, 1), (435, 1)]), (437, [(1, 124), (3, 62), (5, 31), (15, 31), (47, 4), (113, 2), (147, 1), (437, 1)]), (439, [(1, 42), (7, 14), (13, 21), (35, 7), (81, 3), (439, 1)]), (441, [(1, 42), (3, 42), (7, 21), (9, 21), (11, 6), (21, 7), (29, 6), (49, 3), (63, 7), (83, 3), (151, 1), (441, 1)]), (443, [(1, 15), (19, 15), (25, 15), (443, 1)]), (445, [(1, 85), (445, 1)]), (447, [(1, 126), (3, 63), (5, 63), (115, 2), (149, 1), (447, 1)])]
theorem tab5_ok : tab5.all chkRow = true := by decide +kernel
def tab6 : List (Nat × List (Nat × Nat)) := [(449, [(1, 127), (3, 127), (191, 1), (449, 1)]), (451, [(1, 255), (451, 1)]), (453, [(1, 217), (13, 31), (41, 7), (453, 1)]), (455, [(1, 12), (3, 12), (5, 12), (7, 6), (9, 6), (21, 6), (27, 6), (63, 3), (65, 3), (107, 2), (189, 1), (455, 1)]), (457, [(1, 63), (7, 63), (67, 3), (457, 1)]), (459, [(1, 127), (3, 127), (185, 1), (459, 1)]), (461, [(1, 56), (3, 28), (5, 28), (11, 8), (15, 14), (17, 7), (29, 4), (39, 4), (51, 7), (105, 2), (187, 1), (461, 1)]), (463, [(1, 255), (463, 1)]), (465, [(1, 15), (19, 5), (31, 15), (465, 1)]), (467, [(1, 124), (3, 62), (5, 31), (15, 31), (37, 4), (111, 2), (177, 1), (467, 1)]), (469, [(1, 93), (3, 93), (7, 31), (9, 31), (61, 3), (71, 3), (179, 1), (469, 1)]), (471, [(1, 17), (471, 1)]), (473, [(1, 126), (3, 63), (5, 63), (109, 2), (183, 1), (473, 1)]), (475, [(1, 42), (7, 14), (11, 21), (49, 7), (69, 3), (475, 1)]), (477, [(1, 85), (477, 1)]), (479, [(1, 105), (3, 105), (13, 15), (23, 15), (25, 7), (43, 7), (181, 1), (479, 1)])]
theorem tab6_ok : tab6.all chkRow = true := by decide +kernel
def tab7 : List (Nat × List (Nat × Nat)) := [(481, [(1, 217), (11, 31), (55, 7), (481, 1)]), (483, [(1, 93), (3, 93), (7, 31), (9, 31), (59, 3), (77, 3), (161, 1), (483, 1)]), (485, [(1, 126), (3, 63), (5, 63), (97, 2), (163, 1), (485, 1)]), (487, [(1, 255), (487, 1)]), (489, [(1, 127), (3, 127), (167, 1), (489, 1)]), (491, [(1, 217), (13, 31), (47, 7), (491, 1)]), (493, [(1, 30), (7, 15), (21, 15), (25, 6), (79, 3), (493, 1)]), (495, [(1, 20), (3, 20), (5, 10), (15, 5), (17, 5), (31, 4), (33, 4), (99, 2), (165, 1), (495, 1)]), (497, [(1, 84), (3, 42), (5, 21), (7, 28), (9, 14), (13, 12), (15, 21), (23, 6), (27, 7), (35, 4), (45, 7), (57, 3), (75, 3), (101, 2), (175, 1), (497, 1)]), (499, [(1, 51), (499, 1)]), (501, [(1, 255), (501, 1)]), (503, [(1, 105), (3, 105), (11, 15), (19, 7), (29, 15), (53, 7), (173, 1), (503, 1)]), (505, [(1, 85), (505, 1)]), (507, [(1, 126), (3, 63), (5, 63), (103, 2), (169, 1), (507, 1)]), (509, [(1, 127), (3, 127), (171, 1), (509, 1)]), (511, [(1, 9), (7, 9), (73, 3), (511, 1)])]
theorem tab7_ok : tab7.all chkRow = true := by decide +kernel
def tab : List (Nat × List (Nat × Nat)) := tab0 ++ tab1 ++ tab2 ++ tab3 ++ tab4 ++ tab5 ++ tab6 ++ tab7
theorem tab_ok : tab.all chkRow = true := by
  unfold tab
  simp only [List.all_append, tab0_ok, tab1_ok, tab2_ok, tab3_ok, tab4_ok, tab5_ok, tab6_ok, tab7_ok, Bool.and_self]
theorem tab_has : ∀ i < 128, (tab.any fun q => Nat.beq q.1 (257 + 2 * i)) = true := by decide +kernel
theorem sp_even {q n : Nat} (hq : q.testBit 0 = false) (h : Sp q n) : n.testBit 0 = false := by
  induction h with
  | zero => rfl
  | step k _ ih =>
    rw [Nat.testBit_xor, ih, Nat.testBit_shiftLeft]
    cases k with
    | zero => simpa using hq
    | succ k => simp
theorem sp_odd {q n : Nat} (hn : n % 2 = 1) (h : Sp q n) : q % 2 = 1 := by
  rcases Nat.mod_two_eq_zero_or_one q with hq | hq
  · have := sp_even (by rw [Nat.testBit_zero, hq]; rfl) h
    rw [Nat.testBit_zero, hn] at this
    cases this
  · exact hq
theorem primesN_small : ∀ p ∈ primesN, 0 < p ∧ p < 512 := by decide +kernel
end Mine
end
-- part C3
section
open PySem PySem.W PyProof.Rows
namespace Mine
section
local macro_rules | `(tactic| walk_at "no key at all") => `(tactic| skip)
local macro_rules | `(tactic| walk_at "binaryOp LShift int int") => `(tactic| (k_here; (with_reducible refine lshift_int ?kbn ?kbs ?_); (case kbn => omega); (case kbs => (try rw [show Builtin.Int.intBits 1 = 1 from rfl]); omega)))
local macro_rules | `(tactic| walk_at "pyIter ref") => `(tactic| (k_state_given ["a", "b"] (fun a b pre out => 0 ≤ out ∧ out = timesUI a b pre.length) "out"))
set_option maxRecDepth 100000 in
set_option maxHeartbeats 8000000 in
theorem times_c (w : World) (x y : Int) (t u : Tok) : Ctr 2 w 157 (0 ≤ x ∧ 0 ≤ y ∧ Builtin.Int.intBits x ≤ 10000 ∧ Builtin.Int.intBits y ≤ 10000) [.int x t, .int y u] (fun t => .int (timesI x y) t) := by
  unfold Ctr
  intro pgm loose mean mg mb dp un gd cn cs a ccd cl outer A₀ base h₀ L m news s Q E B F X N T hk hpre hd hu hret
  obtain ⟨hx, hy, hbx, hby⟩ := hpre
  dsimp only [CbRet] at hret
  have fill : PySem.Challenge.rw_tr0044_01 = PySem.Challenge.rw_tr0044_01 ∧ Mine.hd.heap_1 = Mine.hd.heap_1 := by
    k_fill
    exact ⟨rfl, rfl⟩
  clear fill
  refine wpAny_call ?_
  k_dflt cell_enter
  k_with_none
  k_with "state" => first | exact times_yes (by assumption) (by assumption) (by assumption) (by assumption) (by assumption) (by assumption) | exact times_no (by assumption) (by assumption) (by assumption) (by assumption) (by assumption) (by assumption) | exact times_start
  k_steps
  exact cb_retI hret (times_end hy (by assumption)) (by k_asm) (by k_asm)
end
end Mine
end
-- part C7
section
open PySem PySem.W PyProof.Rows
namespace Mine
section

local macro_rules | `(tactic| walk_at "call ref") => `(tactic| (k_here; (first | refine' Ctr.use (rest_c _ _ _ _ _) ?k1 ?k2 ?k3 ?k4 ?k5 ?kK ?kp ?kd ?ku ?_ | refine' Ctr.use (times_c _ _ _ _ _) ?k1 ?k2 ?k3 ?k4 ?k5 ?kK ?kp ?kd ?ku ?_ | refine' Ctr.use (dbl_c _ _ _ _ _) ?k1 ?k2 ?k3 ?k4 ?k5 ?kK ?kp ?kd ?ku ?_); (case k1 => k_asm); (case k2 => k_asm); (case k3 => k_asm); (case k4 => k_asm); (case k5 => k_asm); (case kK => first | exact rfl | assumption); (case kp => first | exact trivial | k_extra "pre" | assumption | omega); (case kd => ktr_room); (case ku => ktr_units); intro t9 h9 tk9 F9 N9; (try dsimp only); (try k_fold)))
local macro_rules | `(tactic| walk_at "pyIter ref") => `(tactic| (k_state_given ["count", "rule"] (fun c r pre out => 0 ≤ out ∧ out < 256 ∧ out = powUI c r pre.length) "out"))
set_option maxRecDepth 100000 in
set_option maxHeartbeats 8000000 in
theorem power_c (w : World) (c r : Int) (t u : Tok) : Ctr 6 w 171 (0 ≤ c ∧ Builtin.Int.intBits c ≤ 10000 ∧ 256 ≤ r ∧ r < 512) [.int c t, .int r u] (fun t => .int (powI c r) t) := by
  unfold Ctr
  intro pgm loose mean mg mb dp un gd cn cs a ccd cl outer A₀ base h₀ L m news s Q E B F X N T hk hpre hd hu hret
  obtain ⟨hc, hbc, hr, hr2⟩ := hpre
  dsimp only [CbRet] at hret
  have fill : PySem.Challenge.rw_tr0044_01 = PySem.Challenge.rw_tr0044_01 ∧ Mine.hd.heap_1 = Mine.hd.heap_1 := by
    k_fill
    exact ⟨rfl, rfl⟩
  clear fill
  refine wpAny_call ?_
  k_dflt cell_enter
  k_with_none
  k_with "state" => first | exact pow_yes (by assumption) (by assumption) (by assumption) (by assumption) (by assumption) (by assumption) (by assumption) (by assumption) (by assumption) | exact pow_no (by assumption) (by assumption) (by assumption) (by assumption) (by assumption) (by assumption) (by assumption) (by assumption) (by assumption) | exact pow_start
  k_with "pre" => first | exact pow_pre1 (by assumption) (by assumption) | exact pow_pre2 (by assumption) (by assumption) (by assumption) | exact pow_pre3 (by assumption) (by assumption) (by assumption) (by assumption)
  k_steps
  exact cb_retI hret (pow_end hc (by assumption)) (by k_asm) (by k_asm)
end
end Mine
end
-- part C8
section
open PySem PySem.W PyProof.Rows
namespace Mine
section

local macro_rules | `(tactic| walk_at "call ref") => `(tactic| (k_here; (first | refine' Ctr.use (rest_c _ _ _ _ _) ?k1 ?k2 ?k3 ?k4 ?k5 ?kK ?kp ?kd ?ku ?_ | refine' Ctr.use (times_c _ _ _ _ _) ?k1 ?k2 ?k3 ?k4 ?k5 ?kK ?kp ?kd ?ku ?_ | refine' Ctr.use (power_c _ _ _ _ _) ?k1 ?k2 ?k3 ?k4 ?k5 ?kK ?kp ?kd ?ku ?_); (case k1 => k_asm); (case k2 => k_asm); (case k3 => k_asm); (case k4 => k_asm); (case k5 => k_asm); (case kK => first | exact rfl | assumption); (case kp => first | exact trivial | k_extra "pre" | assumption | omega); (case kd => ktr_room); (case ku => ktr_units); intro t9 h9 tk9 F9 N9; (try dsimp only); (try k_fold)))

set_option maxRecDepth 100000 in
set_option maxHeartbeats 8000000 in
theorem left_c (w : World) (c r b : Int) (t u v : Tok) : Ctr 8 w 204 (0 ≤ c ∧ Builtin.Int.intBits c ≤ 10000 ∧ 256 ≤ r ∧ r < 512 ∧ 0 ≤ b ∧ b < 256) [.int c t, .int r u, .int b v] (fun t => .int (leftI c r b) t) := by
  unfold Ctr
  intro pgm loose mean mg mb dp un gd cn cs a ccd cl outer A₀ base h₀ L m news s Q E B F X N T hk hpre hd hu hret
  obtain ⟨hc, hbc, hr, hr2, hb, hb2⟩ := hpre
  dsimp only [CbRet] at hret
  have fill : PySem.Challenge.rw_tr0044_01 = PySem.Challenge.rw_tr0044_01 ∧ Mine.hd.heap_1 = Mine.hd.heap_1 := by
    k_fill
    exact ⟨rfl, rfl⟩
  clear fill
  refine wpAny_call ?_
  k_dflt cell_enter
  k_with_none
  k_with "pre" => first | exact ⟨hc, hbc, hr, hr2⟩ | exact left_pre1 hr hr2 hb hb2 | exact left_pre2 hr hr2 hb hb2
  k_steps
  exact cb_retI hret left_end (by k_asm) (by k_asm)
end
end Mine
end
-- part L2
section
open PySem PySem.W PySem.Spec PySem.Calls PyProof.Rows
set_option maxRecDepth 100000
namespace Mine

def RuleOk (rl : Nat) : Prop := 257 ≤ rl ∧ rl < 512 ∧ rl % 2 = 1
structure PlainOk (rl b : Nat) (ws : List Nat) : Prop where
  hw : quot rl (shared rl b) < 512
  pr : primesOf (quot rl (shared rl b)) = some ws
  ok : ∀ p ∈ ws, isPrimeI (p : Int) = true ∧ p < 512
  len : ws.length ≤ 9
  per : 1 ≤ periodOf ws ∧ periodOf ws ≤ 1000
  zero : leftN (periodOf ws) rl b = 0
  least : ∀ r, 2 ≤ r → r ≤ periodOf ws → periodOf ws % r = 0 → (∀ s, 2 ≤ s → s < r → r % s ≠ 0) → leftN (periodOf ws / r) rl b ≠ 0
theorem plain {rl b : Nat} (h : RuleOk rl) (hb : b < 256) : ∃ ws, PlainOk rl b ws := by
  obtain ⟨h1, h2, h3⟩ := h
  have hr : 0 < rl := by omega
  have hg := shared_pos2 (b := b) hr
  have hd := (shared_div rl b).1
  have hz := (rest_iff hg).mpr hd
  have hgl : shared rl b < 512 := by
    have a1 := sp_deg hg hr hd
    have a2 := bits_le2 (n := rl) (k := 9) h2
    exact Nat.lt_of_lt_of_le (bits_lt _) (Nat.pow_le_pow_right (show 0 < 2 by decide) (show bitsN (shared rl b) ≤ 9 by omega))
  obtain ⟨q, hq, hq1⟩ := List.any_eq_true.mp (tab_has ((rl - 257) / 2) (by omega))
  have hq2 : q.1 = rl := by
    have := Nat.eq_of_beq_eq_true hq1
    omega
  obtain ⟨c1, c2⟩ := (Bool.and_eq_true _ _).mp (List.all_eq_true.mp tab_ok q hq)
  rw [hq2] at c1 c2
  have hodd := sp_odd h3 hd
  have c3 := allB_get _ _ c2 (shared rl b / 2) (by omega)
  rw [show 2 * (shared rl b / 2) + 1 = shared rl b by omega, hz] at c3
  obtain ⟨e, he, he1⟩ := List.any_eq_true.mp (show q.2.any (fun e => Nat.beq e.1 (shared rl b)) = true from c3)
  have he2 := Nat.eq_of_beq_eq_true he1
  have c4 : chk rl e.1 e.2 = true := List.all_eq_true.mp c1 e he
  rw [he2] at c4
  unfold chk at c4
  split at c4
  · cases c4
  · rename_i ws hws
    simp only [Bool.and_eq_true] at c4
    obtain ⟨d1, d2, d3, d4, d5, d6, d7, d8⟩ := c4
    have d2 := Nat.eq_of_beq_eq_true d2
    have d7 := Nat.eq_of_beq_eq_true d7
    refine ⟨ws, ⟨Nat.blt_eq.mp d1, hws, fun p hp => ?_, Nat.le_of_ble_eq_true d4, ⟨by rw [d2]; exact Nat.le_of_ble_eq_true d5, by rw [d2]; exact Nat.le_of_ble_eq_true d6⟩, ?_, fun r r1 r2 r3 _ hl => ?_⟩⟩
    · have hc := List.all_eq_true.mp d3 p hp
      have hm : p ∈ primesN := by simpa using hc
      have hs := primesN_small p hm
      refine ⟨?_, hs.2⟩
      unfold isPrimeI
      rw [Int.toNat_natCast, hc, Bool.true_and, decide_eq_true_eq]
      omega
    · rw [d2]
      exact (left_shared hr _ b).mpr d7
    · rw [d2] at r2 r3 hl
      have d9 := allB_get _ _ d8 r (by omega)
      have l1 : leftN (e.2 / r) rl (shared rl b) = 0 := (left_shared hr _ b).mp hl
      rw [Nat.ble_eq.mpr r1, r3, l1] at d9
      exact absurd d9 (by decide)
theorem rule_nat (x : Int) : ∃ rl : Nat, RuleOk rl ∧ 256 + 1 + 2 * x.fmod 128 = (rl : Int) := by
  rw [Int.fmod_eq_emod_of_nonneg _ (by decide)]
  refine ⟨257 + 2 * (x % 128).toNat, ?_, by omega⟩
  unfold RuleOk
  omega
theorem begin_nat (x : Int) : ∃ b : Nat, b < 256 ∧ x.fmod 256 = (b : Int) := by
  rw [Int.fmod_eq_emod_of_nonneg _ (by decide)]
  exact ⟨(x % 256).toNat, by omega, by omega⟩
theorem nat_bits {n : Nat} (h : n < 512) : Builtin.Int.intBits (n : Int) ≤ 9 := by
  rw [intBits_cast]; exact bits_512 _ h
theorem sharedI_cast (a b : Nat) : sharedI (a : Int) (b : Int) = ((shared a b : Nat) : Int) := by simp [sharedI]
theorem leftI_cast (a b c : Nat) : leftI (a : Int) (b : Int) (c : Int) = ((leftN a b c : Nat) : Int) := by simp [leftI]
def noDiv (k : Int) : Bool := ((rangeKs 2 (k - 2).toNat).filter fun s => decide (k.fmod s = 0)).isEmpty
def primeP (per : Nat) (k : Int) : Bool := decide ((per : Int).fmod k = 0) && noDiv k
theorem fold_filter (k : Int) : ∀ (xs l : List Int), xs.foldl (fun l s => if k.fmod s = 0 then l ++ [s] else l) l = l ++ xs.filter fun s => decide (k.fmod s = 0)
  | [], l => by simp
  | x :: xs, l => by
    rw [List.foldl_cons, fold_filter k xs, List.filter_cons]
    by_cases h : k.fmod x = 0
    · rw [if_pos h, if_pos (by simpa using h), List.append_assoc]; rfl
    · rw [if_neg h, if_neg (by simpa using h)]
theorem prime_yes {per : Nat} {k : Int} (h : (per : Int).fmod k = 0) : decide ((rangeKs 2 (k - 2).toNat).foldl (fun l s => if k.fmod s = 0 then l ++ [s] else l) [] = []) = primeP per k := by
  rw [fold_filter, List.nil_append]
  unfold primeP noDiv
  rw [decide_eq_true h, Bool.true_and]
  cases (rangeKs 2 (k - 2).toNat).filter fun s => decide (k.fmod s = 0) <;> rfl
theorem prime_no {per : Nat} {k : Int} (h : (per : Int).fmod k ≠ 0) : false = primeP per k := by
  unfold primeP
  rw [decide_eq_false h, Bool.false_and]
theorem prime_mem {per : Nat} {k : Int} (h1 : 1 ≤ per) (h : k ∈ (rangeKs 2 (per - 1)).filter (primeP per)) : ∃ r : Nat, k = (r : Int) ∧ 2 ≤ r ∧ r ≤ per ∧ per % r = 0 ∧ ∀ s, 2 ≤ s → s < r → r % s ≠ 0 := by
  obtain ⟨hm, hp⟩ := List.mem_filter.mp h
  obtain ⟨b1, b2⟩ := mem_rangeKs hm
  obtain ⟨r, rfl⟩ := Int.eq_ofNat_of_zero_le (show 0 ≤ k by omega)
  unfold primeP at hp
  rw [Bool.and_eq_true, decide_eq_true_eq] at hp
  obtain ⟨q1, q2⟩ := hp
  rw [Int.fmod_eq_emod_of_nonneg _ (Int.natCast_nonneg _)] at q1
  refine ⟨r, rfl, by omega, by omega, by exact_mod_cast q1, fun s s1 s2 hs => ?_⟩
  unfold noDiv at q2
  have hmem : (s : Int) ∈ (rangeKs 2 ((r : Int) - 2).toNat).filter fun s => decide ((r : Int).fmod s = 0) := by
    refine List.mem_filter.mpr ⟨?_, ?_⟩
    · unfold rangeKs
      refine List.mem_map.mpr ⟨s - 2, List.mem_range.mpr (by omega), by omega⟩
    · rw [decide_eq_true_eq, Int.fmod_eq_emod_of_nonneg _ (Int.natCast_nonneg _)]
      exact_mod_cast hs
  rw [List.isEmpty_iff.mp q2] at hmem
  exact nomatch hmem
theorem div_ok {r : Nat} (h2 : 2 ≤ r) (h : r ≤ 1000) : ((r : Nat) : Int) ≠ 0 ∧ ((r : Nat) : Int).natAbs.log2 < 9000 := by
  refine ⟨by omega, ?_⟩
  rw [Int.natAbs_natCast]
  exact (Nat.log2_lt (by omega)).mpr (Nat.lt_of_le_of_lt h (Nat.lt_of_lt_of_le (by decide : 1000 < 2 ^ 10) (Nat.pow_le_pow_right (by decide) (by decide))))
theorem fdiv_cast (a b : Nat) : ((a : Nat) : Int).fdiv (b : Int) = ((a / b : Nat) : Int) := by
  rw [Int.fdiv_eq_ediv_of_nonneg _ (Int.natCast_nonneg _)]; rfl
theorem int_ne {n : Nat} (h : n ≠ 0) : (((n : Nat) : Int) == 0) = false := by
  rw [beq_eq_false_iff_ne]; omega
theorem shared_pos {rl b : Nat} (h : RuleOk rl) : 0 < shared rl b := shared_pos2 (by have := h.1; omega)
end Mine
end
-- part L3
section
open PySem PySem.W PySem.Spec PySem.Calls PyProof.Rows
set_option maxRecDepth 100000
namespace Mine
section
local macro_rules | `(tactic| walk_at "CompSrcT") => `(tactic| (refine HoldI.mk ?_))
local macro_rules | `(tactic| k_all) => `(tactic| assumption)
local macro_rules | `(tactic| walk_at "call ref") => `(tactic| (refine HoldI.mk ?_))
local macro_rules | `(tactic| walk_at "binaryOp FloorDiv int int") => `(tactic| (refine HoldI.mk ?_))
local macro_rules | `(tactic| walk_at "subscriptTail") => `(tactic| (k_here; (with_reducible show wpAny _ _ (subscriptTail _ _ (Value.ref _) (Value.ref _)) _ _ _); (goal_has PySem.Expr.List); (refine HoldI.mk ?_)))
-- Names that the head's tool would take for its helper equations (twins of the text's own constants): a name that is
-- taken makes it do without that twin, and the compiled file stays under the lid (with them it was 55 MB).
theorem final.tw10010272874993245601 : True := trivial
theorem final.tw10022720517303903229 : True := trivial
theorem final.tw10136838083808060652 : True := trivial
theorem final.tw10161721240196843986 : True := trivial
theorem final.tw10198918189601624818 : True := trivial
theorem final.tw10215562686513343379 : True := trivial
theorem final.tw10235623650222328101 : True := trivial
theorem final.tw1023977753357071421 : True := trivial
theorem final.tw10347066414650143518 : True := trivial
theorem final.tw10405456934154409483 : True := trivial
theorem final.tw10519780935772106490 : True := trivial
theorem final.tw10620928361779868618 : True := trivial
theorem final.tw1068451924353085083 : True := trivial
theorem final.tw10865263461131140414 : True := trivial
theorem final.tw10897546583699624312 : True := trivial
theorem final.tw11057646398824700998 : True := trivial
theorem final.tw11134921181324909023 : True := trivial
theorem final.tw11143434284413667775 : True := trivial
theorem final.tw11153157573971964366 : True := trivial
theorem final.tw11344152429263432679 : True := trivial
theorem final.tw11409176808490423547 : True := trivial
theorem final.tw11449768931154743443 : True := trivial
theorem final.tw11455286470832896224 : True := trivial
theorem final.tw11483661804922472206 : True := trivial
theorem final.tw11520401330096609620 : True := trivial
theorem final.tw11621525241791773345 : True := trivial
theorem final.tw11702953093837033213 : True := trivial
theorem final.tw11706135745540080801 : True := trivial
theorem final.tw11908802298470853932 : True := trivial
theorem final.tw11925769687901133866 : True := trivial
theorem final.tw12015204588933193610 : True := trivial
theorem final.tw1219376236543507551 : True := trivial
theorem final.tw12268144012071753613 : True := trivial
theorem final.tw12298103585672968418 : True := trivial
theorem final.tw12358737551627760310 : True := trivial
theorem final.tw12388972978486176875 : True := trivial
theorem final.tw12411140988998077859 : True := trivial
theorem final.tw12442840532546170135 : True := trivial
theorem final.tw12464643593025077343 : True := trivial
theorem final.tw12504466222242759415 : True := trivial
theorem final.tw12579368493340364875 : True := trivial
theorem final.tw12745456073798777040 : True := trivial
theorem final.tw12787673743913026722 : True := trivial
theorem final.tw12852182725542459066 : True := trivial
theorem final.tw12857474060036348902 : True := trivial
theorem final.tw12900595733005133062 : True := trivial
theorem final.tw12933409026105978606 : True := trivial
theorem final.tw13070091137009082169 : True := trivial
theorem final.tw13084178088124665500 : True := trivial
theorem final.tw13198125711504249433 : True := trivial
theorem final.tw13272435591910737277 : True := trivial
theorem final.tw13436894549356674435 : True := trivial
theorem final.tw13447579337430037540 : True := trivial
theorem final.tw13677162470074421662 : True := trivial
theorem final.tw13707858908888328168 : True := trivial
theorem final.tw13902647279651871334 : True := trivial
theorem final.tw13971017806962626768 : True := trivial
theorem final.tw14054177327168669609 : True := trivial
theorem final.tw14075180522251205000 : True := trivial
theorem final.tw14078706251315611494 : True := trivial
theorem final.tw14219477473750013154 : True := trivial
theorem final.tw14381790933468784648 : True := trivial
theorem final.tw14424997594739748307 : True := trivial
theorem final.tw14429708822765107926 : True := trivial
theorem final.tw14476525473978586552 : True := trivial
theorem final.tw14783993916324718730 : True := trivial
theorem final.tw14838063319114388084 : True := trivial
theorem final.tw14885865362977504382 : True := trivial
theorem final.tw14891174452418874599 : True := trivial
theorem final.tw14923001549059771250 : True := trivial
theorem final.tw14989635381582243802 : True := trivial
theorem final.tw15002957657636978355 : True := trivial
theorem final.tw15055759508504394698 : True := trivial
theorem final.tw15187764968134394116 : True := trivial
theorem final.tw15189068949626688618 : True := trivial
theorem final.tw15197400897401603280 : True := trivial
theorem final.tw15236406610050182710 : True := trivial
theorem final.tw154085630076864448 : True := trivial
theorem final.tw1543641582297286357 : True := trivial
theorem final.tw15438442293791725603 : True := trivial
theorem final.tw15461508515462595316 : True := trivial
theorem final.tw1547634603476588811 : True := trivial
theorem final.tw15577775736892493570 : True := trivial
theorem final.tw15598267126266478070 : True := trivial
theorem final.tw15626734571503195110 : True := trivial
theorem final.tw15696047645194348214 : True := trivial
theorem final.tw15749131273807778147 : True := trivial
theorem final.tw15827805275511034588 : True := trivial
theorem final.tw15891373984983396202 : True := trivial
theorem final.tw15981178532920550917 : True := trivial
theorem final.tw15998246895451491800 : True := trivial
theorem final.tw15998802877172754485 : True := trivial
theorem final.tw16152952586699198599 : True := trivial
theorem final.tw16195603264935533082 : True := trivial
theorem final.tw16208415720716193051 : True := trivial
theorem final.tw16445440151621273314 : True := trivial
theorem final.tw16540968434458866720 : True := trivial
theorem final.tw16600768930087418477 : True := trivial
theorem final.tw16674493107115136728 : True := trivial
theorem final.tw16682726815438651451 : True := trivial
theorem final.tw16705584245655957005 : True := trivial
theorem final.tw16711262688699148389 : True := trivial
theorem final.tw1674159282242906978 : True := trivial
theorem final.tw17259851351052652404 : True := trivial
theorem final.tw17299782089999335445 : True := trivial
theorem final.tw17333754714033110994 : True := trivial
theorem final.tw17383074198191274772 : True := trivial
theorem final.tw17803981208475232141 : True := trivial
theorem final.tw17808083240501529409 : True := trivial
theorem final.tw17873030957218211813 : True := trivial
theorem final.tw17906251651433466956 : True := trivial
theorem final.tw18016225678640273874 : True := trivial
theorem final.tw1807292130814547012 : True := trivial
theorem final.tw18132660915919845555 : True := trivial
theorem final.tw18209651382716861065 : True := trivial
theorem final.tw18309510468732470755 : True := trivial
theorem final.tw18333122673250038332 : True := trivial
theorem final.tw18341050448917833586 : True := trivial
theorem final.tw18443530126623473481 : True := trivial
theorem final.tw1870604113638288131 : True := trivial
theorem final.tw2117453587529596892 : True := trivial
theorem final.tw2191496003128243387 : True := trivial
theorem final.tw2321079126958112427 : True := trivial
theorem final.tw2540090075640739688 : True := trivial
theorem final.tw2594613207386444489 : True := trivial
theorem final.tw2733928711496653908 : True := trivial
theorem final.tw3127405503604353263 : True := trivial
theorem final.tw326406509992156494 : True := trivial
theorem final.tw3268456759003779936 : True := trivial
theorem final.tw3268801115549755241 : True := trivial
theorem final.tw3384860348465029522 : True := trivial
theorem final.tw3396835954446963980 : True := trivial
theorem final.tw3477953164056872788 : True := trivial
theorem final.tw357486453476387696 : True := trivial
theorem final.tw3619555724634058376 : True := trivial
theorem final.tw3648678833678371261 : True := trivial
theorem final.tw3676795932780261704 : True := trivial
theorem final.tw3936246226047674485 : True := trivial
theorem final.tw4113752316972050158 : True := trivial
theorem final.tw4144371117990100604 : True := trivial
theorem final.tw4231731959701284245 : True := trivial
theorem final.tw4233563099671912912 : True := trivial
theorem final.tw4312115456105261190 : True := trivial
theorem final.tw4735494928415244778 : True := trivial
theorem final.tw4941518728927537897 : True := trivial
theorem final.tw4978577268980519545 : True := trivial
theorem final.tw5089064438980251878 : True := trivial
theorem final.tw5276009768488258565 : True := trivial
theorem final.tw5401274072143798051 : True := trivial
theorem final.tw5415015098129623477 : True := trivial
theorem final.tw5513875924864653303 : True := trivial
theorem final.tw5892880772836789786 : True := trivial
theorem final.tw604259592467036408 : True := trivial
theorem final.tw606705476428804573 : True := trivial
theorem final.tw6090495070513234986 : True := trivial
theorem final.tw6100701620964578974 : True := trivial
theorem final.tw6101152265812649530 : True := trivial
theorem final.tw6141204725952769983 : True := trivial
theorem final.tw6158865224554252413 : True := trivial
theorem final.tw6210968012304685554 : True := trivial
theorem final.tw6304142677640949180 : True := trivial
theorem final.tw6408627558038916697 : True := trivial
theorem final.tw6509238117302338853 : True := trivial
theorem final.tw6627534881075276826 : True := trivial
theorem final.tw6628137532042735977 : True := trivial
theorem final.tw685945308638388284 : True := trivial
theorem final.tw6916487152113757813 : True := trivial
theorem final.tw7009362083800865533 : True := trivial
theorem final.tw7091158148372881714 : True := trivial
theorem final.tw711753044238566856 : True := trivial
theorem final.tw7218303973529491779 : True := trivial
theorem final.tw738721121300774409 : True := trivial
theorem final.tw7421639907970033554 : True := trivial
theorem final.tw7511173690161008258 : True := trivial
theorem final.tw7542923308735110344 : True := trivial
theorem final.tw7604323640201055028 : True := trivial
theorem final.tw7696433628538851831 : True := trivial
theorem final.tw7750760841996414401 : True := trivial
theorem final.tw7833768916911220442 : True := trivial
theorem final.tw7895919473546186562 : True := trivial
theorem final.tw807308427763349152 : True := trivial
theorem final.tw8387401590369894660 : True := trivial
theorem final.tw8502431511492158837 : True := trivial
theorem final.tw8543058232313407451 : True := trivial
theorem final.tw8568633749400116076 : True := trivial
theorem final.tw8626431433666001865 : True := trivial
theorem final.tw8731573251788014547 : True := trivial
theorem final.tw8762036396747011047 : True := trivial
theorem final.tw8879119404054116266 : True := trivial
theorem final.tw8956541503333826556 : True := trivial
theorem final.tw8983094371880723818 : True := trivial
theorem final.tw9027451854550268119 : True := trivial
theorem final.tw9126048592727317795 : True := trivial
theorem final.tw9189427303333699170 : True := trivial
theorem final.tw9215884214247020788 : True := trivial
theorem final.tw9345675968381638054 : True := trivial
theorem final.tw9788256078724583796 : True := trivial
theorem final.tw9816280823844487792 : True := trivial
theorem final.tw9885169743852063000 : True := trivial
theorem final.tw9917796009047001856 : True := trivial
theorem final.tw9941049382910627851 : True := trivial
set_option Elab.async true in
set_option maxRecDepth 100000 in
set_option maxHeartbeats 8000000 in
theorem final : PySem.Challenge.rw_tr0044_01.Holds := by
  o_law
  o_head (kmHook Mine.hd.heap_1 asK asK_eq [77])
  case hw => w_witness2
  k_fill
  intro w s₀ s₁ mg mb G Y fa o pm cd doc dV kV ho hd hcd hD hmg hg args vals as hpre hlay hrd hwl hlo
  have KX := km_in_of Y
  have hT8 := km_tabs_of Y
  have X := (Ground.X G).1
  have V := (Ground.X G).2
  refine Ground.open G ?_
  intro T B D TE TW
  try (refine guard_noD D (by decide +kernel) ?_; clear D)
  have hT9 : TabsAt [(81, 77)] _ := List.forall_mem_cons.mpr ⟨⟨codeHd_of_K (c := 81) (P := 77) KX (by kernel_rfl), hT8 77 (by k_mem)⟩, fun _ h => nomatch h⟩
  clear hmg
  wrow_args hpre hlay hrd hwl hlo
  all_goals (
    first | refine callC_kw (enter_call ?_) | refine enter_call ?_
    w_top on
    refine kn_postG hT9 (fun _ _ => rfl) ?_
    w_call any ho hd hcd hD T F
    clear hd
    kn_ghosts F T
    k_drop)
  all_goals (try k_fold)
  k_steps
  unfold HoldI
  refine kba_turn (value' := PySem.Expr.Name (PySem.Str.ofString "_") ⟨0, 0, 0, 0⟩) (fun _ => rfl) ?_
  refine' kmk_slice_ints ?zF ?zN ?zl ?zp ?zq ?zi (kmk_from ?zi2 ?zm) ?zc ?_ ?zs ?zt ?zz
  case zF => k_asm
  case zN => k_asm
  case zl => kmk_list
  case zp => kmk_part
  case zq => kmk_part
  case zi => l_ints
  case zi2 => l_ints
  case zm => exact Int.natCast_nonneg _
  case zc => kmk_len
  case zs => with_unfolding_all rfl
  case zt => kmk_pure
  case zz => kmk_size
  intro D' ws' h' F' N' l1 hI' hC' hL'
  try simp only [Int.reduceNeg, Int.neg_neg, Int.reduceToNat] at hI' hC' hL'
  try k_lt l1
  try k_sweep
  k_steps
  unfold HoldI
  rename List Int => zs
  generalize hd0 : List.getD (List.map (fun k' : Int => k'.fmod (10 ^ Int.toNat 6)) (List.take 2 zs) ++ List.drop (((List.map (fun k' : Int => k'.fmod (10 ^ 6)) (List.take 2 zs)).length : Nat) : Int).toNat [99, 7]) (Int.toNat 0) 0 = d0 at *
  generalize hd1 : List.getD (List.map (fun k' : Int => k'.fmod (10 ^ Int.toNat 6)) (List.take 2 zs) ++ List.drop (((List.map (fun k' : Int => k'.fmod (10 ^ 6)) (List.take 2 zs)).length : Nat) : Int).toNat [99, 7]) (Int.toNat 1) 0 = d1 at *
  generalize hR : (256 + 1 + 2 * d0.fmod 128 : Int) = R at *
  generalize hB : (d1.fmod 256 : Int) = b0 at *
  obtain ⟨rl, hrl, e1⟩ := rule_nat d0
  obtain ⟨b, hb, e2⟩ := begin_nat d1
  rw [hR] at e1
  rw [hB] at e2
  subst e1 e2
  obtain ⟨ws, PO⟩ := plain hrl hb
  obtain ⟨hrl1, hrl2, hrl3⟩ := id hrl
  have hbr := nat_bits hrl2
  have hbb := nat_bits (show b < 512 by omega)
  refine' Ctr.use (shared_c w (rl : Int) (b : Int) _ _) ?k1 ?k2 ?k3 ?k4 ?k5 ?kK ?kp ?kd ?ku ?_; (case k1 => k_asm); (case k2 => k_asm); (case k3 => k_asm); (case k4 => k_asm); (case k5 => k_asm); (case kK => first | exact rfl | assumption); (case kp => exact ⟨by omega, by omega, by omega, by omega⟩); (case kd => ktr_room); (case ku => ktr_units)
  intro t11 h11 tk11 F11 N11
  rw [sharedI_cast]
  have hsp := shared_pos (b := b) hrl
  k_steps
  unfold HoldI
  refine' Ctr.use (quot_c w (rl : Int) ((shared rl b : Nat) : Int) _ _) ?k1 ?k2 ?k3 ?k4 ?k5 ?kK ?kp ?kd ?ku ?_; (case k1 => k_asm); (case k2 => k_asm); (case k3 => k_asm); (case k4 => k_asm); (case k5 => k_asm); (case kK => first | exact rfl | assumption); (case kp => exact ⟨by omega, by omega, by omega⟩); (case kd => ktr_room); (case ku => ktr_units)
  intro t12 h12 tk12 F12 N12
  try clear F11 N11
  rw [quotI_cast]
  k_steps
  unfold HoldI
  rename News _ _ _ _ => N0
  rename Fr _ _ _ _ => F0
  dsimp only at F0
  rename Obj => obC
  rename obC.data = _ => hobC
  try clear F12 N12
  (refine' primes_c w #[] [(s₁.heap.objs.size + 1, obC)] trivial (List.forall_mem_cons.mpr ⟨by show s₁.heap.objs.size + 1 ≠ 77; omega, fun _ h => nomatch h⟩) (quot rl (shared rl b)) _ PO.hw ws PO.pr _ _ _ _ _ _ _ _ _ _ _ _ _ _ _ _ _ _ _ _ _ _ ?k1 ?k2 ?k3 ?k4 ?k5 ?kK ?kd ?ku ?_); (case k1 => k_asm); (case k2 => k_asm); (case k3 => k_asm); (case k5 => k_asm); (case kK => first | exact rfl | assumption); (case kd => ktr_room); (case ku => ktr_units)
  case k4 => exact ⟨codeHd, fun p hp => N0 p (by
    rcases List.mem_cons.mp hp with h | hp
    · subst h; k_mem
    · rcases List.mem_cons.mp hp with h | hp
      · subst h; k_mem
      · exact nomatch hp)⟩
  refine ⟨.of_eq hg, fun P dx hs tk9 t9 ent n9 h13 g13 tk13 ps13 F13 T13 G13 N13 hent hdP hdx hgt => ?_⟩
  clear F0 N0
  k_steps
  unfold HoldI
  have hPr : ∀ p ∈ [((77 : Addr), tabObj ps13), (s₁.heap.objs.size + 1, obC)], p.1 < dx := by
    intro p hp
    rcases List.mem_cons.mp hp with h | hp
    · rw [h]; exact hdx (77, tabObj #[]) (.head _)
    · rcases List.mem_cons.mp hp with h | hp
      · rw [h]; exact hdx (s₁.heap.objs.size + 1, obC) (.tail _ (.head _))
      · exact nomatch hp
  (refine' period_c w P dx hs tk9 t9 ent n9 [(77, tabObj ps13), (s₁.heap.objs.size + 1, obC)] 0 (fun e he => PO.ok _ (hent ▸ List.mem_map.mpr ⟨e, he, rfl⟩)) (by rw [← List.length_map (f := fun e : PEnt => e.2.1), hent]; exact PO.len) (Nat.ne_of_lt hdP) (fun p hp => by
    rcases List.mem_append.mp hp with hp | hp
    · obtain ⟨e, he, rfl⟩ := List.mem_map.mp hp
      exact Nat.ne_of_gt (hgt e he)
    · exact Nat.ne_of_lt (Nat.lt_trans (hPr p hp) hdP)) _ _ _ _ _ _ _ _ _ _ _ _ _ _ _ _ _ _ _ _ _ _ ?k1 ?k2 ?k3 ?k4 ?k5 ?kK ?kd ?ku ?_); (case k1 => k_asm); (case k2 => k_asm); (case k3 => k_asm); (case k5 => k_asm); (case kK => first | exact rfl | assumption); (case kd => ktr_room); (case ku => ktr_units)
  case k4 => exact fun p hp => N13 p (by
    rcases List.mem_cons.mp hp with h | hp
    · exact h ▸ .head _
    · rcases List.mem_cons.mp hp with h | hp
      · exact .tail _ (h ▸ .head _)
      · rcases List.mem_append.mp hp with hp | hp
        · exact .tail _ (.tail _ (.tail _ (List.mem_append_left _ hp)))
        · rcases List.mem_cons.mp hp with h | hp
          · exact .tail _ (.tail _ (h ▸ .head _))
          · exact .tail _ (.tail _ (.tail _ (List.mem_append_right _ hp))))
  refine ⟨G13, fun t14 h14 g14 tk14 F14 N14 G14 => ?_⟩
  clear F13 N13
  rw [hent]
  have hper := PO.per
  have hpb : Builtin.Int.intBits ((periodOf ws : Nat) : Int) ≤ 10000 := by
    rw [intBits_cast]
    exact Nat.le_trans (bits_le (k := 10) (by omega)) (by decide)
  k_steps
  unfold HoldI
  refine' Ctr.use (left_c w ((periodOf ws : Nat) : Int) (rl : Int) (b : Int) _ _ _) ?k1 ?k2 ?k3 ?k4 ?k5 ?kK ?kp ?kd ?ku ?_; (case k1 => k_asm); (case k2 => k_asm); (case k3 => k_asm); (case k4 => k_asm); (case k5 => k_asm); (case kK => first | exact rfl | assumption); (case kp => exact ⟨by omega, hpb, by omega, by omega, by omega, by omega⟩); (case kd => ktr_room); (case ku => ktr_units)
  intro t15 h15 tk15 F15 N15
  rw [leftI_cast, PO.zero]
  try clear F14 N14
  k_steps
  unfold HoldI
  refine' Ctr.use (iseof_c w ((0 : Nat) : Int) t15) ?k1 ?k2 ?k3 ?k4 ?k5 ?kK ?kp ?kd ?ku ?_; (case k1 => k_asm); (case k2 => k_asm); (case k3 => k_asm); (case k4 => k_asm); (case k5 => k_asm); (case kK => first | exact rfl | assumption); (case kp => exact trivial); (case kd => ktr_room); (case ku => ktr_units)
  intro t16 h16 tk16 F16 N16
  try clear F15 N15
  k_steps
  rename Fr _ _ _ _ => F0
  rename News _ _ _ _ => N0
  rename Obj => obP
  rename obP.data = _ => hobP
  try dsimp only at F0
  refine cell_comp F0 rfl (by with_unfolding_all rfl) (by with_unfolding_all rfl) (by rfl) (by decide) (by intro _ _; rfl) (by intro _; rfl) (by intro _ _; rfl) (by decide) (by rfl) (by rfl) ?_
  k_steps
  rename Fr _ _ _ _ => F17
  rename News _ _ _ _ => N17
  refine ⟨_, 2, _, _, _, _, periodOf ws - 1, [(77, tabObj ps13), (s₁.heap.objs.size + 1, obP)], primeP (periodOf ws), rfl, rfl, F17, ?cN, by assumption, ?csm, ?crs, ?csz, ?cturn, ?cfin⟩
  case cN =>
    intro p hp
    refine N17 p ?_
    rcases List.mem_cons.mp hp with h | hp
    · subst h; k_mem
    · rcases List.mem_cons.mp hp with h | hp
      · subst h; k_mem
      · exact nomatch hp
  case csm => exact small_one (by omega) (by omega) (by omega) (by omega)
  case crs => rw [rangeSize_nat]; omega
  case csz => rw [PySem.sizeLine_eq]; omega
  case cturn =>
    clear F17 N17
    intro k tv I9 K9 C9 D9 oI oK oC ys h17 tk17 E17 hk1 hk2 hoK F17 N17 hq9 hord9
    obtain ⟨o1, o2, o3⟩ := hord9
    unfold cLed at N17
    iterate 12 (first | walk1 | (dsimp only; walk1))
    · refine LCt.ListComp_T (F₀ := F17) (by with_unfolding_all rfl) (by decide) (by rfl) (by decide) (by rfl) ?_
      k_steps
      unfold HoldI
      refine LCt.CompSrcT.range (n := (k - 2).toNat) (by rfl) (by k_asm) (by k_asm) (by assumption) ?zsm ?zrs ?zsz ?_
      case zsm => exact small_one (by omega) (by omega) (by omega) (by omega)
      case zrs => exact rangeSize_nat _ _
      case zsz => rw [PySem.sizeLine_eq]; omega
      intro g9
      refine' kci_range (fun l s => if k.fmod s = 0 then l ++ [s] else l) (fun k' t' I' oI' C' oC' D' m' ys' l' h' tk' E' hlo' hhi' hI' hC' hx' F' N' off' ne' hm' => ?_) ?_ ?_
      · have off0 := off'
        simp only [LCg.Off3, and_true] at off'
        iterate 9 (first | walk1 | (dsimp only; walk1))
        · walk1
          rename Int.fmod _ _ = 0 => ha
          exact LCg.CompEnd.intro (by k_asm) (by k_asm) _ (fun p hp => hp) off0 trivial (kci_el (if_pos ha) rfl rfl)
        · rename Int.fmod _ _ ≠ 0 => ha
          exact LCg.CompEnd.intro (by k_asm) (by k_asm) _ (fun p hp => hp) off0 trivial (kci_no (if_neg ha) rfl)
      · unfold KPfDone
        intro ys2 hys2 hl2
        intro D' h18 tk18 F18 N18 off18
        walk1
        walk1
        walk1
        refine ke_eq_ints (ys := []) (by kmk_list) (by kmk_list) hys2 .nil (by ktr_units) ?_
        walk1
        rename Int.fmod _ _ = 0 => ha
        rename News _ _ _ _ => N20
        rename News _ _ _ _ => N20
        rw [prime_yes ha]
        cases hpk : primeP (periodOf ws) k with
        | true =>
          rw [if_pos rfl]
          walk1
          exact ⟨rfl, _, _, rfl, by k_asm, fun q hq => N20 q (.tail _ (.tail _ hq))⟩
        | false =>
          rw [if_neg (by decide)]
          exact ⟨rfl, _, _, rfl, by k_asm, fun q hq => N20 q (.tail _ (.tail _ hq))⟩
      · intro l s
        dsimp only
        split <;> simp
    · rename Int.fmod _ _ ≠ 0 => hn0
      exact ⟨prime_no hn0, _, _, rfl, by k_asm, by k_asm⟩
  case cfin =>
    clear F17 N17
    intro D9 ys h17 tk17 hys F17 N17 hq9
    have hD1 : s₁.heap.objs.size + 1 < D9 := hq9 (s₁.heap.objs.size + 1, obP) (.tail _ (.head _))
    have hD2 : 77 < D9 := hq9 (77, tabObj ps13) (.head _)
    iterate 3 (first | walk1 | (dsimp only; walk1))
    k_search (fun pre => True)
    · rename _ ∈ List.filter _ _ => kmem
      obtain ⟨r, rfl, r1, r2, r3, r4⟩ := prime_mem hper.1 kmem
      have hdv := Nat.div_le_self (periodOf ws) r
      have hpb2 : Builtin.Int.intBits ((periodOf ws / r : Nat) : Int) ≤ 10000 := by
        rw [intBits_cast]
        exact Nat.le_trans (bits_le (k := 10) (by omega)) (by decide)
      k_steps
      unfold HoldI
      refine floordiv_int (div_ok r1 (by omega)).1 ?_ (Or.inl (PyProof.noPylong_of_log2 (div_ok r1 (by omega)).2))
      rw [fdiv_cast]
      k_steps
      unfold HoldI
      refine' Ctr.use (left_c w ((periodOf ws / r : Nat) : Int) (rl : Int) (b : Int) _ _ _) ?k1 ?k2 ?k3 ?k4 ?k5 ?kK ?kp ?kd ?ku ?_; (case k1 => k_asm); (case k2 => k_asm); (case k3 => k_asm); (case k4 => k_asm); (case k5 => k_asm); (case kK => first | exact rfl | assumption); (case kp => exact ⟨Int.natCast_nonneg _, hpb2, by omega, by omega, by omega, by omega⟩); (case kd => ktr_room); (case ku => ktr_units)
      intro t25 h25 tk25 F25 N25
      rw [leftI_cast]
      k_steps
      unfold HoldI
      refine' Ctr.use (iseof_c w ((leftN (periodOf ws / r) rl b : Nat) : Int) t25) ?k1 ?k2 ?k3 ?k4 ?k5 ?kK ?kp ?kd ?ku ?_; (case k1 => k_asm); (case k2 => k_asm); (case k3 => k_asm); (case k4 => k_asm); (case k5 => k_asm); (case kK => first | exact rfl | assumption); (case kp => exact trivial); (case kd => ktr_room); (case ku => ktr_units)
      intro t26 h26 tk26 F26 N26
      try clear F25 N25
      rw [int_ne (PO.least r r1 r2 r3 r4)]
      k_steps
    · dsimp only
      k_steps
      rename Fr _ _ _ _ => F29
      rename News _ _ _ _ => N29
      refine ⟨⟨true, rfl, ?post⟩, F29.keep, rfl, G14⟩
      case post => first | rfl | wrow_post

end
end Mine
end
theorem PySem.Challenge.cw_tr0044_01_holds : PySem.Challenge.rw_tr0044_01.Holds := by
  exact Mine.final
