import PyProof.Rows.All
import Wide.All
import OpenK.AllK
import Wide.FinOn
import PySem.Challenge.RW_tx0024_01
set_option Elab.async false

section
open PySem PySem.W PyProof.Rows
namespace Mine
set_option maxRecDepth 100000 in
set_option maxHeartbeats 8000000 in
open_top hd for PySem.Challenge.rw_tx0024_01
end Mine
end

namespace Mine
theorem top_off : True := by
  w_top off
  trivial

section
open PySem PySem.Spec PySem.Calls PySem.W PyProof.Rows


/-! ints: bits -/
structure Sz (x : Int) : Prop where
  out : Builtin.Int.intBits x ≤ 2000000
theorem Sz.of_lt {x : Int} {k : Nat} (h : x.natAbs < 2 ^ k) (hk : k ≤ 2000000) : Sz x := ⟨Nat.le_trans (intBits_le h) hk⟩
theorem Sz.of_nn {x : Int} {k : Nat} (h0 : 0 ≤ x) (h : x < 2 ^ k) (hk : k ≤ 2000000) : Sz x := by
  refine .of_lt (k := k) ?_ hk
  have : ((x.natAbs : Int)) < ((2 ^ k : Nat) : Int) := by push_cast; omega
  exact_mod_cast this

theorem pow_pos2 (n : Nat) : (0 : Int) < 2 ^ n := Int.pow_pos (by decide)
theorem pow_cast (n : Nat) : ((2 ^ n : Nat) : Int) = 2 ^ n := by push_cast; rfl

theorem fdiv_pow (a : Int) (n : Nat) : a.fdiv (2 ^ n) = a / 2 ^ n := Int.fdiv_eq_ediv_of_nonneg a (Int.le_of_lt (pow_pos2 n))

theorem bitAnd_mask {a : Int} (n : Nat) (ha : 0 ≤ a) : Builtin.bitAnd a (2 ^ n - 1) = a % 2 ^ n := by
  have hp := pow_pos2 n
  have h1 : (0 : Int) ≤ 2 ^ n - 1 := by omega
  unfold Builtin.bitAnd
  rw [decide_eq_true ha, decide_eq_true h1]
  show ((a.toNat &&& (2 ^ n - 1 : Int).toNat : Nat) : Int) = _
  have e : ((2 : Int) ^ n - 1).toNat = 2 ^ n - 1 := by
    have := pow_cast n
    omega
  rw [e, Nat.and_two_pow_sub_one_eq_mod]
  have : ((a.toNat : Nat) : Int) = a := by omega
  push_cast
  rw [this]

theorem bitOr_nn {a b : Int} (ha : 0 ≤ a) (hb : 0 ≤ b) : Builtin.bitOr a b = ((a.toNat ||| b.toNat : Nat) : Int) := by
  unfold Builtin.bitOr Builtin.bitAnd Builtin.bitNot
  rw [decide_eq_false (by omega : ¬ 0 ≤ -a - 1), decide_eq_false (by omega : ¬ 0 ≤ -b - 1)]
  show - (-(((- (-a - 1) - 1).toNat ||| (- (-b - 1) - 1).toNat : Nat) : Int) - 1) - 1 = _
  have e1 : (- (-a - 1) - 1) = a := by omega
  have e2 : (- (-b - 1) - 1) = b := by omega
  rw [e1, e2]; omega
theorem bitAnd_nn {a b : Int} (ha : 0 ≤ a) (hb : 0 ≤ b) : Builtin.bitAnd a b = ((a.toNat &&& b.toNat : Nat) : Int) := by
  unfold Builtin.bitAnd
  rw [decide_eq_true ha, decide_eq_true hb]

theorem bitOr_sum {a b : Int} (n : Nat) (ha : 0 ≤ a) (hb : 0 ≤ b) (hb' : b < 2 ^ n) : Builtin.bitOr (a * 2 ^ n) b = a * 2 ^ n + b := by
  have hp := pow_pos2 n
  have h1 : 0 ≤ a * 2 ^ n := Int.mul_nonneg ha (Int.le_of_lt hp)
  rw [bitOr_nn h1 hb]
  have e1 : (a * 2 ^ n).toNat = 2 ^ n * a.toNat := by
    have : ((2 ^ n * a.toNat : Nat) : Int) = a * 2 ^ n := by push_cast; rw [Int.toNat_of_nonneg ha, Int.mul_comm]
    omega
  have hb2 : b.toNat < 2 ^ n := by
    have := pow_cast n
    omega
  rw [e1, ← Nat.two_pow_add_eq_or_of_lt hb2]
  push_cast
  rw [Int.toNat_of_nonneg ha, Int.toNat_of_nonneg hb, Int.mul_comm]

theorem bitXor_low {a : Int} (n : Nat) (ha : 0 ≤ a) : Builtin.bitXor a (a / 2 ^ n * 2 ^ n) = a % 2 ^ n := by
  have hp := pow_pos2 n
  have hd : 0 ≤ a / 2 ^ n := Int.ediv_nonneg ha (Int.le_of_lt hp)
  have h1 : 0 ≤ a / 2 ^ n * 2 ^ n := Int.mul_nonneg hd (Int.le_of_lt hp)
  unfold Builtin.bitXor
  have e1 : (a / 2 ^ n * 2 ^ n).toNat = (a.toNat >>> n) <<< n := by
    rw [Nat.shiftRight_eq_div_pow, Nat.shiftLeft_eq]
    have : ((a.toNat / 2 ^ n * 2 ^ n : Nat) : Int) = a / 2 ^ n * 2 ^ n := by push_cast; rw [Int.toNat_of_nonneg ha]
    omega
  have hor : a.toNat ||| (a.toNat >>> n) <<< n = a.toNat := by
    apply Nat.eq_of_testBit_eq
    intro i
    simp only [Nat.testBit_or, Nat.testBit_shiftLeft, Nat.testBit_shiftRight]
    by_cases h : i ≥ n
    · have : n + (i - n) = i := by omega
      simp [h, this]
    · simp [h]
  have hand : a.toNat &&& (a.toNat >>> n) <<< n = (a.toNat >>> n) <<< n := by
    apply Nat.eq_of_testBit_eq
    intro i
    simp only [Nat.testBit_and, Nat.testBit_shiftLeft, Nat.testBit_shiftRight]
    by_cases h : i ≥ n
    · have : n + (i - n) = i := by omega
      simp [h, this]
    · simp [h]
  rw [bitOr_nn ha h1, bitAnd_nn ha h1, e1, hor, hand, ← e1, Int.toNat_of_nonneg ha, Int.toNat_of_nonneg h1]
  have := Int.emod_add_mul_ediv a (2 ^ n)
  rw [Int.mul_comm] at this
  omega

theorem bitAnd_one {n : Nat} : Builtin.bitAnd (n : Int) 1 = ((n % 2 : Nat) : Int) := by
  have := bitAnd_mask (a := (n : Int)) 1 (by omega)
  simpa using this

/-! rules for the ops with natural counts -/
section
variable {prog : Program} {w : World} {A : Around} {E : Value → Shared → Prop} {s : Shared} {a b : Int} {n : Nat} {t u : Tok} {Q : Value → Shared → Prop}
theorem shl_n (hs : Sz a) (hn : n ≤ 2000000) (h : Q (.int (a * 2 ^ n) s.toks) { s with toks := s.toks + 1 }) : wpAny (model prog w) A (binaryOp .LShift (.int a t) (.int (n : Int) u)) Q E s :=
  lshift_int (by omega) (by have := hs.out; omega) (by rw [Int.toNat_natCast]; exact h)
theorem shl_one (hn : n ≤ 2000000) (h : Q (.int (2 ^ n) s.toks) { s with toks := s.toks + 1 }) : wpAny (model prog w) A (binaryOp .LShift (.int 1 t) (.int (n : Int) u)) Q E s :=
  shl_n ⟨by decide⟩ hn (by rw [Int.one_mul]; exact h)
theorem ishl_n (hs : Sz a) (hn : n ≤ 2000000) (h : Q (.int (a * 2 ^ n) s.toks) { s with toks := s.toks + 1 }) : wpAny (model prog w) A (inplaceOp .LShift (.int a t) (.int (n : Int) u)) Q E s :=
  ilshift_int (by omega) (by have := hs.out; omega) (by rw [Int.toNat_natCast]; exact h)
theorem ishl_1 (hs : Sz a) (h : Q (.int (a * 2) s.toks) { s with toks := s.toks + 1 }) : wpAny (model prog w) A (inplaceOp .LShift (.int a t) (.int 1 u)) Q E s :=
  ilshift_int (by omega) (by have := hs.out; omega) h
theorem shr_n (h : Q (.int (a / 2 ^ n) s.toks) { s with toks := s.toks + 1 }) : wpAny (model prog w) A (binaryOp .RShift (.int a t) (.int (n : Int) u)) Q E s :=
  rshift_int (by omega) (by rw [Int.toNat_natCast, fdiv_pow]; exact h)
theorem shr_1 {k : Nat} (h : Q (.int ((k / 2 : Nat) : Int) s.toks) { s with toks := s.toks + 1 }) : wpAny (model prog w) A (binaryOp .RShift (.int (k : Int) t) (.int 1 u)) Q E s :=
  rshift_int (by omega) (by
    have e : ((k : Int).fdiv (2 ^ (1 : Int).toNat)) = ((k / 2 : Nat) : Int) := by
      have := fdiv_pow (k : Int) 1
      simpa using this
    rw [e]; exact h)
theorem ishr_1 (h : Q (.int (a / 2) s.toks) { s with toks := s.toks + 1 }) : wpAny (model prog w) A (inplaceOp .RShift (.int a t) (.int 1 u)) Q E s :=
  irshift_int (by omega) (by
    have e : (a.fdiv (2 ^ (1 : Int).toNat)) = a / 2 := by
      have := fdiv_pow a 1
      simpa using this
    rw [e]; exact h)
theorem and_mask (ha : 0 ≤ a) (h : Q (.int (a % 2 ^ n) s.toks) { s with toks := s.toks + 1 }) : wpAny (model prog w) A (binaryOp .BitAnd (.int a t) (.int (2 ^ n - 1) u)) Q E s :=
  and_int (by rw [bitAnd_mask n ha]; exact h)
theorem and_one (h : Q (.int ((n % 2 : Nat) : Int) s.toks) { s with toks := s.toks + 1 }) : wpAny (model prog w) A (binaryOp .BitAnd (.int (n : Int) t) (.int 1 u)) Q E s :=
  and_int (by rw [bitAnd_one]; exact h)
theorem or_sum (ha : 0 ≤ a) (hb : 0 ≤ b) (hb' : b < 2 ^ n) (h : Q (.int (a * 2 ^ n + b) s.toks) { s with toks := s.toks + 1 }) : wpAny (model prog w) A (binaryOp .BitOr (.int (a * 2 ^ n) t) (.int b u)) Q E s :=
  or_int (by rw [bitOr_sum n ha hb hb']; exact h)
theorem xor_low (ha : 0 ≤ a) (h : Q (.int (a % 2 ^ n) s.toks) { s with toks := s.toks + 1 }) : wpAny (model prog w) A (binaryOp .BitXor (.int a t) (.int (a / 2 ^ n * 2 ^ n) u)) Q E s :=
  xor_int (by rw [bitXor_low n ha]; exact h)
theorem mul_sz (ha : Sz a) (hb : Sz b) (h : Q (.int (a * b) s.toks) { s with toks := s.toks + 1 }) : wpAny (model prog w) A (binaryOp .Mult (.int a t) (.int b u)) Q E s :=
  mul_int h (mulOk_of_bits ha.out hb.out (by decide))
theorem add_n {k : Nat} (h : Q (.int ((n + k : Nat) : Int) s.toks) { s with toks := s.toks + 1 }) : wpAny (model prog w) A (binaryOp .Add (.int (n : Int) t) (.int (k : Int) u)) Q E s :=
  add_int (by rw [← Int.natCast_add]; exact h)
end

/-! the 3n by 2n division -/
section
variable {a12 a3 b b1 b2 q r A : Int} {n : Nat}
theorem d3_in1 (h : a12 / 2 ^ n = b1) (ha : 0 ≤ a12) (hab : a12 < b) (ha3 : 0 ≤ a3) (ha3' : a3 < 2 ^ n) (hb : b = b1 * 2 ^ n + b2) (hb2 : 0 ≤ b2) (hb1 : 0 < b1) :
    0 ≤ a12 - b1 * 2 ^ n + b1 ∧ a12 - b1 * 2 ^ n + b1 ≤ a12 ∧ (2 ^ n - 1) * b + (((a12 - b1 * 2 ^ n + b1) * 2 ^ n + a3) - (2 ^ n - 1) * b2) = a12 * 2 ^ n + a3 ∧ ((a12 - b1 * 2 ^ n + b1) * 2 ^ n + a3) - (2 ^ n - 1) * b2 < b := by
  have hp := pow_pos2 n
  have e := Int.emod_add_mul_ediv a12 (2 ^ n)
  have em := Int.emod_nonneg a12 (Int.ne_of_gt hp)
  rw [h] at e
  generalize (2 : Int) ^ n = P at *
  have id : (P - 1) * b + (((a12 - b1 * P + b1) * P + a3) - (P - 1) * b2) = a12 * P + a3 := by rw [hb]; grind
  have k : b1 ≤ P * b1 := by
    have := Int.mul_le_mul_of_nonneg_right (show (1 : Int) ≤ P by omega) (Int.le_of_lt hb1)
    omega
  have e' : b1 * P = P * b1 := Int.mul_comm _ _
  refine ⟨by omega, by omega, id, ?_⟩
  have h2 : a12 * P + a3 < b * P := by
    have := Int.mul_le_mul_of_nonneg_right (show a12 + 1 ≤ b by omega) (Int.le_of_lt hp)
    rw [Int.add_mul] at this
    omega
  have h3 : (P - 1) * b = b * P - b := by grind
  omega
theorem d3_in2 (h : ¬ a12 / 2 ^ n = b1) (ha : 0 ≤ a12) (hab : a12 < b) (ha3 : 0 ≤ a3) (ha3' : a3 < 2 ^ n) (hb : b = b1 * 2 ^ n + b2) (hb2 : 0 ≤ b2) (hb2' : b2 < 2 ^ n) (hb1 : 0 < b1) :
    a12 < b1 * 2 ^ n ∧ a12 / b1 < 2 ^ n ∧ 0 ≤ a12 / b1 ∧ (a12 / b1) * b + (((a12 % b1) * 2 ^ n + a3) - (a12 / b1) * b2) = a12 * 2 ^ n + a3 ∧ ((a12 % b1) * 2 ^ n + a3) - (a12 / b1) * b2 < b := by
  have hp := pow_pos2 n
  have hle : a12 / 2 ^ n < b1 + 1 := by
    refine Int.ediv_lt_of_lt_mul hp ?_
    have : (b1 + 1) * 2 ^ n = b1 * 2 ^ n + 2 ^ n := by rw [Int.add_mul, Int.one_mul]
    omega
  have hlt : a12 < b1 * 2 ^ n := Int.lt_mul_of_ediv_lt hp (by omega)
  have e := Int.emod_add_mul_ediv a12 b1
  have em := Int.emod_nonneg a12 (Int.ne_of_gt hb1)
  have el := Int.emod_lt_of_pos a12 hb1
  have hq : a12 / b1 < 2 ^ n := Int.ediv_lt_of_lt_mul hb1 (by rw [Int.mul_comm]; exact hlt)
  have hq0 : 0 ≤ a12 / b1 := Int.ediv_nonneg ha (Int.le_of_lt hb1)
  refine ⟨hlt, hq, hq0, ?_, ?_⟩
  · generalize (2 : Int) ^ n = P at *
    generalize a12 / b1 = q at *
    generalize a12 % b1 = r at *
    subst hb
    rw [← e]
    grind
  · have h1 : 0 ≤ (a12 / b1) * b2 := Int.mul_nonneg hq0 hb2
    have h2 : (a12 % b1 + 1) * 2 ^ n ≤ b1 * 2 ^ n := Int.mul_le_mul_of_nonneg_right (by omega) (Int.le_of_lt hp)
    rw [Int.add_mul] at h2
    omega
theorem d3_turn (h : q * b + r = A ∧ r < b) (hr : r < 0) : (q - 1) * b + (r + b) = A ∧ r + b < b := by
  refine ⟨?_, by omega⟩
  rw [Int.sub_mul]
  omega
theorem d3_out (hb : 0 < b) (h : q * b + r = A ∧ r < b) (hr : ¬ r < 0) : A / b = q ∧ A % b = r := by
  have e : A = r + q * b := by omega
  rw [e]
  constructor
  · rw [Int.add_mul_ediv_right _ _ (Int.ne_of_gt hb), Int.ediv_eq_zero_of_lt (by omega) h.2]; omega
  · rw [Int.add_mul_emod_self_right]
    exact Int.emod_eq_of_lt (by omega) h.2
end
end

section
open PySem PySem.Spec PySem.Calls PySem.W PyProof.Rows

theorem d2_math {A B : Int} {h : Nat} (hA : 0 ≤ A) (hAB : A < B * 2 ^ (2 * h)) (hB : 0 < B) :
    0 ≤ A / 2 ^ (2 * h) ∧ A / 2 ^ (2 * h) < B ∧ A / 2 ^ (2 * h) * 2 ^ h + A / 2 ^ h % 2 ^ h = A / 2 ^ h ∧ 0 ≤ A / 2 ^ h / B ∧
    A / 2 ^ h / B * 2 ^ h + (A / 2 ^ h % B * 2 ^ h + A % 2 ^ h) / B = A / B ∧ (A / 2 ^ h % B * 2 ^ h + A % 2 ^ h) % B = A % B ∧
    0 ≤ (A / 2 ^ h % B * 2 ^ h + A % 2 ^ h) / B ∧ (A / 2 ^ h % B * 2 ^ h + A % 2 ^ h) / B < 2 ^ h := by
  have hp := pow_pos2 h
  have hp2 := pow_pos2 (2 * h)
  have e2 : (2 : Int) ^ (2 * h) = 2 ^ h * 2 ^ h := by rw [← Int.pow_add]; congr 1; omega
  have hm : 0 ≤ A / 2 ^ h := Int.ediv_nonneg hA (Int.le_of_lt hp)
  have a0 := Int.emod_nonneg A (Int.ne_of_gt hp)
  have a1 := Int.emod_lt_of_pos A hp
  have r0 := Int.emod_nonneg (A / 2 ^ h) (Int.ne_of_gt hB)
  have r1 := Int.emod_lt_of_pos (A / 2 ^ h) hB
  have eA := Int.emod_add_mul_ediv A (2 ^ h)
  have em := Int.emod_add_mul_ediv (A / 2 ^ h) B
  have key : A = (A / 2 ^ h % B * 2 ^ h + A % 2 ^ h) + B * (A / 2 ^ h / B * 2 ^ h) := by
    generalize A / 2 ^ h = m at *
    generalize A % 2 ^ h = u at *
    generalize m / B = q at *
    generalize m % B = r at *
    generalize (2 : Int) ^ h = P at *
    grind
  have n2 : 0 ≤ A / 2 ^ h % B * 2 ^ h + A % 2 ^ h := by
    have := Int.mul_nonneg r0 (Int.le_of_lt hp)
    omega
  refine ⟨Int.ediv_nonneg hA (Int.le_of_lt hp2), Int.ediv_lt_of_lt_mul hp2 hAB, ?_, Int.ediv_nonneg hm (Int.le_of_lt hB), ?_, ?_, Int.ediv_nonneg n2 (Int.le_of_lt hB), ?_⟩
  · rw [e2, ← Int.ediv_ediv_of_nonneg (Int.le_of_lt hp)]
    have := Int.emod_add_mul_ediv (A / 2 ^ h) (2 ^ h)
    rw [Int.mul_comm] at this
    omega
  · conv => rhs; rw [key]
    rw [Int.add_mul_ediv_left _ _ (Int.ne_of_gt hB)]
    omega
  · conv => rhs; rw [key]
    rw [Int.add_mul_emod_self_left]
  · refine Int.ediv_lt_of_lt_mul hB ?_
    have h2 : (A / 2 ^ h % B + 1) * 2 ^ h ≤ B * 2 ^ h := Int.mul_le_mul_of_nonneg_right (by omega) (Int.le_of_lt hp)
    rw [Int.add_mul] at h2
    rw [Int.mul_comm (2 ^ h) B]
    omega
theorem d2_split {B : Int} {h : Nat} (h1 : 1 ≤ h) (hB : 2 ^ (2 * h - 1) ≤ B) (hB' : B < 2 ^ (2 * h)) :
    B = B / 2 ^ h * 2 ^ h + B % 2 ^ h ∧ 0 ≤ B % 2 ^ h ∧ B % 2 ^ h < 2 ^ h ∧ 0 < B / 2 ^ h ∧ B / 2 ^ h < 2 ^ h := by
  have hp := pow_pos2 h
  have e2 : (2 : Int) ^ (2 * h) = 2 ^ h * 2 ^ h := by rw [← Int.pow_add]; congr 1; omega
  have eB := Int.emod_add_mul_ediv B (2 ^ h)
  have b0 := Int.emod_nonneg B (Int.ne_of_gt hp)
  have b1 := Int.emod_lt_of_pos B hp
  have hle : (2 : Int) ^ h ≤ 2 ^ (2 * h - 1) := by
    have : (2 ^ h : Nat) ≤ 2 ^ (2 * h - 1) := Nat.pow_le_pow_right (by decide) (by omega)
    exact_mod_cast this
  refine ⟨by rw [Int.mul_comm]; omega, b0, b1, ?_, Int.ediv_lt_of_lt_mul hp (by rw [← e2]; exact hB')⟩
  have : 1 ≤ B / 2 ^ h := (Int.le_ediv_iff_mul_le hp).mpr (by omega)
  omega
end

section
open PySem PySem.Spec PySem.Calls PySem.W PyProof.Rows

/-- k digits of x, base 2 ^ n, lowest first -/
def digs (n : Nat) : Nat → Int → List Int
  | 0, _ => []
  | k + 1, x => x % 2 ^ n :: digs n k (x / 2 ^ n)
theorem digs_length (n : Nat) : ∀ k x, (digs n k x).length = k
  | 0, _ => rfl
  | k + 1, x => by rw [digs, List.length_cons, digs_length n k]
theorem digs_add (n : Nat) : ∀ (j k : Nat) (x : Int), digs n (j + k) x = digs n j (x % 2 ^ (j * n)) ++ digs n k (x / 2 ^ (j * n))
  | 0, k, x => by
    simp only [Nat.zero_add, Nat.zero_mul, Int.pow_zero, Int.ediv_one, digs, List.nil_append]
  | j + 1, k, x => by
    have hp := pow_pos2 n
    have hj := pow_pos2 (j * n)
    have e : (2 : Int) ^ ((j + 1) * n) = 2 ^ n * 2 ^ (j * n) := by rw [← Int.pow_add]; congr 1; rw [Nat.add_mul, Nat.one_mul, Nat.add_comm]
    rw [show j + 1 + k = (j + k) + 1 by omega, digs, digs, digs_add n j k, List.cons_append]
    have e1 : x % 2 ^ ((j + 1) * n) % 2 ^ n = x % 2 ^ n := by
      rw [e]; exact Int.emod_emod_of_dvd x ⟨2 ^ (j * n), rfl⟩
    have e2 : x % 2 ^ ((j + 1) * n) / 2 ^ n = x / 2 ^ n % 2 ^ (j * n) := by
      rw [e]
      have h1 := Int.emod_add_mul_ediv x (2 ^ n * 2 ^ (j * n))
      have h2 := Int.emod_add_mul_ediv (x / 2 ^ n) (2 ^ (j * n))
      have h3 : x / (2 ^ n * 2 ^ (j * n)) = x / 2 ^ n / 2 ^ (j * n) := by rw [Int.ediv_ediv_of_nonneg (Int.le_of_lt hp)]
      rw [h3] at h1
      have h4 : x % (2 ^ n * 2 ^ (j * n)) = x + 2 ^ n * (-(2 ^ (j * n) * (x / 2 ^ n / 2 ^ (j * n)))) := by
        rw [Int.mul_neg, ← Int.mul_assoc]; omega
      rw [h4, Int.add_mul_ediv_left _ _ (Int.ne_of_gt hp)]
      omega
    have e3 : x / 2 ^ n / 2 ^ (j * n) = x / 2 ^ ((j + 1) * n) := by rw [e, Int.ediv_ediv_of_nonneg (Int.le_of_lt hp)]
    rw [e1, e2, e3]
theorem digs_one {n : Nat} {x : Int} (h0 : 0 ≤ x) (h1 : x < 2 ^ n) : digs n 1 x = [x] := by
  rw [digs, digs, Int.emod_eq_of_lt h0 h1]
/-- the digits of x laid from place lo on -/
def lay (n : Nat) (ns : List Int) (lo k : Nat) (x : Int) : List Int := ns.take lo ++ digs n k x ++ ns.drop (lo + k)
theorem lay_length {n : Nat} {ns : List Int} {lo k : Nat} {x : Int} (h : lo + k ≤ ns.length) : (lay n ns lo k x).length = ns.length := by
  simp only [lay, List.length_append, List.length_take, List.length_drop, digs_length]; omega
theorem lay_one {n : Nat} {ns : List Int} {lo : Nat} {x : Int} (h : lo + 1 ≤ ns.length) (h0 : 0 ≤ x) (h1 : x < 2 ^ n) : ns.set lo x = lay n ns lo 1 x := by
  rw [lay, digs_one h0 h1, List.set_eq_take_append_cons_drop, if_pos (by omega)]
  simp
theorem lay_two {n : Nat} {ns : List Int} {lo j k : Nat} {x : Int} (h : lo + (j + k) ≤ ns.length) :
    lay n (lay n ns lo j (x % 2 ^ (j * n))) (lo + j) k (x / 2 ^ (j * n)) = lay n ns lo (j + k) x := by
  have hl : (ns.take lo ++ digs n j (x % 2 ^ (j * n))).length = lo + j := by
    simp only [List.length_append, List.length_take, digs_length]; omega
  rw [lay, lay, lay, digs_add]
  rw [show lo + j = (ns.take lo ++ digs n j (x % 2 ^ (j * n))).length from hl.symm]
  rw [List.take_left']
  · rw [show (ns.take lo ++ digs n j (x % 2 ^ (j * n))).length + k = (ns.take lo ++ digs n j (x % 2 ^ (j * n))).length + k from rfl]
    rw [List.drop_append, hl]
    rw [List.drop_of_length_le (by rw [hl]; omega)]
    simp only [List.nil_append, List.append_assoc, List.drop_drop]
    congr 4
    omega
  · rfl
/-- the value of digits, lowest first -/
def val (n : Nat) : List Int → Int
  | [] => 0
  | d :: r => d + 2 ^ n * val n r
theorem val_digs (n : Nat) : ∀ (k : Nat) (x : Int), 0 ≤ x → x < 2 ^ (k * n) → val n (digs n k x) = x
  | 0, x, h0, h1 => by simp at h1; simp [digs, val]; omega
  | k + 1, x, h0, h1 => by
    have hp := pow_pos2 n
    have hd : x / 2 ^ n < 2 ^ (k * n) := by
      refine Int.ediv_lt_of_lt_mul hp ?_
      rw [← Int.pow_add, show k * n + n = (k + 1) * n by rw [Nat.add_mul, Nat.one_mul]]
      exact h1
    rw [digs, val, val_digs n k _ (Int.ediv_nonneg h0 (Int.le_of_lt hp)) hd]
    have := Int.emod_add_mul_ediv x (2 ^ n)
    omega
theorem val_append (n : Nat) : ∀ (a b : List Int), val n (a ++ b) = val n a + 2 ^ (a.length * n) * val n b
  | [], b => by simp [val]
  | d :: r, b => by
    rw [List.cons_append, val, val, val_append n r b, List.length_cons]
    have e : (2 : Int) ^ ((r.length + 1) * n) = 2 ^ n * 2 ^ (r.length * n) := by rw [← Int.pow_add]; congr 1; rw [Nat.add_mul, Nat.one_mul, Nat.add_comm]
    rw [e, Int.mul_add, Int.mul_assoc]
    omega
theorem digs_range (n : Nat) : ∀ (k : Nat) (x : Int), ∀ d ∈ digs n k x, 0 ≤ d ∧ d < 2 ^ n
  | 0, _, d, h => by cases h
  | k + 1, x, d, h => by
    rw [digs] at h
    rcases List.mem_cons.mp h with rfl | h
    · exact ⟨Int.emod_nonneg _ (Int.ne_of_gt (pow_pos2 n)), Int.emod_lt_of_pos _ (pow_pos2 n)⟩
    · exact digs_range n k _ d h
theorem val_range (n : Nat) : ∀ (l : List Int), (∀ d ∈ l, 0 ≤ d ∧ d < 2 ^ n) → 0 ≤ val n l ∧ val n l < 2 ^ (l.length * n)
  | [], _ => by simp [val]
  | d :: r, h => by
    have hd := h d (.head _)
    have hr := val_range n r fun e he => h e (.tail _ he)
    have hp := pow_pos2 n
    rw [val, List.length_cons]
    have e : (2 : Int) ^ ((r.length + 1) * n) = 2 ^ n * 2 ^ (r.length * n) := by rw [← Int.pow_add]; congr 1; rw [Nat.add_mul, Nat.one_mul, Nat.add_comm]
    have h1 : 0 ≤ 2 ^ n * val n r := Int.mul_nonneg (Int.le_of_lt hp) hr.1
    have h2 : 2 ^ n * (val n r + 1) ≤ 2 ^ n * 2 ^ (r.length * n) := Int.mul_le_mul_of_nonneg_left (by omega) (Int.le_of_lt hp)
    rw [Int.mul_add] at h2
    rw [e]
    omega
end

section
open PySem PySem.Spec PySem.Calls PySem.W PyProof.Rows

theorem dp_step {V b d : Int} {n : Nat} (hb : 0 < b) (h0 : 0 ≤ d) (h1 : d < 2 ^ n) :
    0 ≤ V % b * 2 ^ n + d ∧ V % b * 2 ^ n + d < b * 2 ^ n ∧ (V % b * 2 ^ n + d) / b + 2 ^ n * (V / b) = (d + 2 ^ n * V) / b ∧ (V % b * 2 ^ n + d) % b = (d + 2 ^ n * V) % b ∧
    0 ≤ (V % b * 2 ^ n + d) / b ∧ (V % b * 2 ^ n + d) / b < 2 ^ n := by
  have hp := pow_pos2 n
  have r0 := Int.emod_nonneg V (Int.ne_of_gt hb)
  have r1 := Int.emod_lt_of_pos V hb
  have e := Int.emod_add_mul_ediv V b
  have x0 : 0 ≤ V % b * 2 ^ n + d := by
    have := Int.mul_nonneg r0 (Int.le_of_lt hp)
    omega
  have x1 : V % b * 2 ^ n + d < b * 2 ^ n := by
    have h2 : (V % b + 1) * 2 ^ n ≤ b * 2 ^ n := Int.mul_le_mul_of_nonneg_right (by omega) (Int.le_of_lt hp)
    rw [Int.add_mul] at h2
    omega
  have key : d + 2 ^ n * V = (V % b * 2 ^ n + d) + b * (2 ^ n * (V / b)) := by
    generalize V / b = q at *
    generalize V % b = r at *
    generalize (2 : Int) ^ n = P at *
    rw [← e]; grind
  refine ⟨x0, x1, ?_, ?_, Int.ediv_nonneg x0 (Int.le_of_lt hb), Int.ediv_lt_of_lt_mul hb (by rw [Int.mul_comm (2 ^ n) b]; exact x1)⟩
  · rw [key, Int.add_mul_ediv_left _ _ (Int.ne_of_gt hb)]
  · rw [key, Int.add_mul_emod_self_left]
theorem val_snoc (n : Nat) (l : List Int) (d : Int) : val n (l ++ [d]).reverse = d + 2 ^ n * val n l.reverse := by
  rw [List.reverse_append]; rfl
theorem bits_bounds {b : Int} {n : Nat} (hb : 0 < b) (hn : Builtin.Int.intBits b = n) : 1 ≤ n ∧ 2 ^ (n - 1) ≤ b ∧ b < 2 ^ n := by
  have h0 : b.natAbs ≠ 0 := by omega
  have e : Builtin.Int.intBits b = b.natAbs.log2 + 1 := by
    unfold Builtin.Int.intBits
    rw [if_neg (by simpa using (show b ≠ 0 by omega))]
  rw [← hn, e]
  have h1 : 2 ^ b.natAbs.log2 ≤ b.natAbs := Nat.log2_self_le h0
  have h2 : b.natAbs < 2 ^ (b.natAbs.log2 + 1) := Nat.lt_log2_self
  refine ⟨by omega, ?_, ?_⟩
  · have : ((2 ^ b.natAbs.log2 : Nat) : Int) ≤ ((b.natAbs : Nat) : Int) := by exact_mod_cast h1
    push_cast at this
    rw [Nat.add_sub_cancel]
    omega
  · have : ((b.natAbs : Nat) : Int) < ((2 ^ (b.natAbs.log2 + 1) : Nat) : Int) := by exact_mod_cast h2
    push_cast at this
    omega
/-- the state ahead of a turn of the division's loop -/
structure DpSt (n : Nat) (b : Int) (ds : List Int) (dn rs qs : List Int) : Prop where
  all : ds.reverse = dn ++ rs
  len : qs.length = dn.length
  rng : ∀ q ∈ qs, 0 ≤ q ∧ q < 2 ^ n
  val : val n qs.reverse = val n dn.reverse / b
theorem DpSt.turn {n : Nat} {b : Int} {ds dn rs qs : List Int} {d : Int} (hb : 0 < b) (hd : ∀ d ∈ ds, 0 ≤ d ∧ d < 2 ^ n) (S : DpSt n b ds dn (d :: rs) qs) :
    DpSt n b ds (dn ++ [d]) rs (qs ++ [(Mine.val n dn.reverse % b * 2 ^ n + d) / b]) ∧ (Mine.val n dn.reverse % b * 2 ^ n + d) % b = Mine.val n (dn ++ [d]).reverse % b ∧
    0 ≤ Mine.val n dn.reverse % b * 2 ^ n + d ∧ Mine.val n dn.reverse % b * 2 ^ n + d < b * 2 ^ n := by
  have hdm : d ∈ ds := by
    have : d ∈ ds.reverse := by rw [S.all]; simp
    simpa using this
  obtain ⟨d0, d1⟩ := hd d hdm
  obtain ⟨h1, h2, h3, h4, h5, h6⟩ := dp_step (V := Mine.val n dn.reverse) hb d0 d1
  refine ⟨⟨by rw [S.all]; simp, by simp [S.len], ?_, ?_⟩, ?_, h1, h2⟩
  · intro q hq
    rcases List.mem_append.mp hq with hq | hq
    · exact S.rng q hq
    · rw [List.mem_singleton.mp hq]; exact ⟨h5, h6⟩
  · rw [val_snoc, val_snoc, S.val]; exact h3
  · rw [val_snoc]; exact h4
theorem DpSt.done {n : Nat} {b : Int} {ds dn qs : List Int} (S : DpSt n b ds dn [] qs) : dn = ds.reverse ∧ Mine.val n qs.reverse = Mine.val n ds / b ∧ Mine.val n dn.reverse = Mine.val n ds := by
  have e : dn = ds.reverse := by rw [S.all]; simp
  have hv := S.val
  subst e
  rw [List.reverse_reverse] at hv ⊢
  exact ⟨rfl, hv, rfl⟩
theorem DpSt.start {n : Nat} {b : Int} {ds : List Int} : DpSt n b ds [] ds.reverse [] := ⟨rfl, rfl, (fun _ h => nomatch h), by simp [Mine.val]⟩
theorem DpSt.reach {n : Nat} {b : Int} {ds dn rs qs : List Int} (S : DpSt n b ds dn rs qs) : qs.length ≤ ds.length := by
  have := congrArg List.length S.all
  simp at this
  rw [S.len]; omega
end

section
open PySem PySem.Spec PySem.Calls PySem.W PyProof.Rows

theorem not_div {a b : Int} (hb : 0 < b) : Builtin.bitNot (Builtin.bitNot a / b) = a / b ∧ b + Builtin.bitNot (Builtin.bitNot a % b) = a % b := by
  unfold Builtin.bitNot
  have e := Int.emod_add_mul_ediv (-a - 1) b
  have r0 := Int.emod_nonneg (-a - 1) (Int.ne_of_gt hb)
  have r1 := Int.emod_lt_of_pos (-a - 1) hb
  generalize (-a - 1) / b = q at *
  generalize (-a - 1) % b = r at *
  have ea : a = (b - r - 1) + b * (-q - 1) := by rw [Int.mul_sub, Int.mul_neg]; omega
  rw [ea, Int.add_mul_ediv_left _ _ (Int.ne_of_gt hb), Int.add_mul_emod_self_left, Int.ediv_eq_zero_of_lt (by omega) (by omega), Int.emod_eq_of_lt (by omega) (by omega)]
  omega
theorem neg_div {a b : Int} (hb : b < 0) : -a / -b = a.fdiv b ∧ -(-a % -b) = a.fmod b := by
  have h1 : a.fdiv b = -a / -b := by
    rw [← Int.fdiv_eq_ediv_of_nonneg (-a) (by omega : 0 ≤ -b), Int.neg_fdiv_neg]
  refine ⟨h1.symm, ?_⟩
  have e1 := Int.fmod_def a b
  have e2 := Int.emod_def (-a) (-b)
  rw [h1] at e1
  rw [e1, e2, Int.neg_mul]
  omega
theorem bits_neg (a : Int) : Builtin.Int.intBits (-a) = Builtin.Int.intBits a := by
  unfold Builtin.Int.intBits
  by_cases h : a = 0
  · subst h; rfl
  · rw [if_neg (by simpa using (show -a ≠ 0 by omega)), if_neg (by simpa using h), Int.natAbs_neg]
theorem bits_mono {a b : Int} (h : a.natAbs ≤ b.natAbs) : Builtin.Int.intBits a ≤ Builtin.Int.intBits b := by
  by_cases hb : b = 0
  · subst hb
    have : a = 0 := by omega
    subst this; exact Nat.le_refl _
  · refine intBits_le (Nat.lt_of_le_of_lt h ?_)
    have e : Builtin.Int.intBits b = b.natAbs.log2 + 1 := by
      unfold Builtin.Int.intBits
      rw [if_neg (by simpa using hb)]
    rw [e]; exact Nat.lt_log2_self
theorem bits_not {a : Int} (h : a < 0) : Builtin.Int.intBits (Builtin.bitNot a) ≤ Builtin.Int.intBits a := bits_mono (by unfold Builtin.bitNot; omega)
/-- what the division's text is asked for here -/
structure Fit (a b : Int) : Prop where
  small : Builtin.Int.intBits b ≤ 7000
  few : Builtin.Int.intBits a ≤ 99 * Builtin.Int.intBits b
theorem Fit.digits {a b : Int} (h : Fit a b) : (Builtin.Int.intBits a + Builtin.Int.intBits b - 1) / Builtin.Int.intBits b ≤ 100 := by
  have := h.few
  rcases Nat.eq_zero_or_pos (Builtin.Int.intBits b) with h0 | h0
  · rw [h0, Nat.div_zero]; exact Nat.zero_le _
  · exact Nat.le_of_lt_succ (Nat.div_lt_of_lt_mul (by rw [Nat.mul_comm]; omega))
end

section


/-- what the first list holds and the second does not -/
def dif (xs ys : List Int) : List Int := xs.filter fun x => !ys.contains x
theorem dif_nil (ys : List Int) : dif [] ys = [] := rfl
theorem dif_none (xs : List Int) : dif xs [] = xs := by
  unfold dif
  exact List.filter_eq_self.mpr fun x _ => by simp
theorem dif_congr {xs ys zs : List Int} (h : ∀ x ∈ xs, x ∈ ys ↔ x ∈ zs) : dif xs ys = dif xs zs := by
  unfold dif
  refine List.filter_congr fun x hx => ?_
  have := h x hx
  by_cases h1 : x ∈ ys
  · have h2 := this.mp h1
    simp [h1, h2]
  · have h2 : x ∉ zs := fun z => h1 (this.mpr z)
    simp [h1, h2]
theorem dif_cons_in {x : Int} {xs ys : List Int} (h : x ∈ ys) : dif (x :: xs) ys = dif xs ys := by
  unfold dif; rw [List.filter_cons_of_neg (by simp [h])]
theorem dif_cons_out {x : Int} {xs ys : List Int} (h : x ∉ ys) : dif (x :: xs) ys = x :: dif xs ys := by
  unfold dif; rw [List.filter_cons_of_pos (by simp [h])]
abbrev Up (l : List Int) : Prop := l.Pairwise (· < ·)
theorem Up.not_lt {x y : Int} {ys : List Int} (h : Up (y :: ys)) (hx : x < y) : x ∉ y :: ys := fun hm => by
  rcases List.mem_cons.mp hm with rfl | hm
  · omega
  · have := (List.pairwise_cons.mp h).1 x hm; omega
theorem Up.not_in {y : Int} {ys : List Int} (h : Up (y :: ys)) : y ∉ ys := fun hm => by
  have := (List.pairwise_cons.mp h).1 y hm; omega
theorem dif_low {x y : Int} {xs ys : List Int} (hy : Up (y :: ys)) (hx : x < y) : dif (x :: xs) (y :: ys) = x :: dif xs (y :: ys) := dif_cons_out (hy.not_lt hx)
theorem dif_high {x y : Int} {xs ys : List Int} (hy : Up (y :: ys)) (hx : x < y) : dif (y :: ys) (x :: xs) = dif (y :: ys) xs :=
  dif_congr fun z hz => by
    have hzx : z ≠ x := fun q => hy.not_lt hx (q ▸ hz)
    simp [hzx]
theorem dif_same {x : Int} {xs ys : List Int} (hx : Up (x :: xs)) : dif (x :: xs) (x :: ys) = dif xs ys := by
  rw [dif_cons_in (List.mem_cons_self)]
  exact dif_congr fun z hz => by
    have hzx : z ≠ x := fun q => hx.not_in (q ▸ hz)
    simp [hzx]
theorem drop_eq {xs : List Int} {i : Nat} {x : Int} (h : xs[i]? = some x) : xs.drop i = x :: xs.drop (i + 1) := by
  obtain ⟨h1, h2⟩ := List.getElem?_eq_some_iff.mp h
  rw [List.drop_eq_getElem_cons h1, h2]
theorem Up.drop {xs : List Int} (h : Up xs) (i : Nat) : Up (xs.drop i) := List.Pairwise.drop h
theorem drop_end {xs : List Int} {i : Nat} (h : xs[i]? = none) : xs.drop i = [] := List.drop_eq_nil_of_le (List.getElem?_eq_none_iff.mp h)

/-- how far the two walks have come -/
structure Far (xs ys : List Int) (i j : Nat) (mz uz : List Int) : Prop where
  mis : mz ++ dif (xs.drop i) (ys.drop j) = dif xs ys
  une : uz ++ dif (ys.drop j) (xs.drop i) = dif ys xs
theorem Far.start (xs ys : List Int) : Far xs ys 0 0 [] [] := ⟨rfl, rfl⟩
theorem Far.low {xs ys : List Int} {i j : Nat} {mz uz : List Int} {x y : Int} (f : Far xs ys i j mz uz) (uy : Up ys) (hx : xs[i]? = some x) (hy : ys[j]? = some y) (h : x < y) : Far xs ys (i + 1) j (mz ++ [x]) uz := by
  obtain ⟨f1, f2⟩ := f
  have u2 := uy.drop j
  rw [drop_eq hx, drop_eq hy] at f1 f2
  rw [drop_eq hy] at u2
  rw [dif_low u2 h] at f1
  rw [dif_high u2 h] at f2
  refine ⟨?_, ?_⟩
  · rw [drop_eq hy, List.append_assoc]; exact f1
  · rw [drop_eq hy]; exact f2
theorem Far.high {xs ys : List Int} {i j : Nat} {mz uz : List Int} {x y : Int} (f : Far xs ys i j mz uz) (ux : Up xs) (hx : xs[i]? = some x) (hy : ys[j]? = some y) (h : y < x) : Far xs ys i (j + 1) mz (uz ++ [y]) := by
  obtain ⟨f1, f2⟩ := f
  have u2 := ux.drop i
  rw [drop_eq hx, drop_eq hy] at f1 f2
  rw [drop_eq hx] at u2
  rw [dif_low u2 h] at f2
  rw [dif_high u2 h] at f1
  refine ⟨?_, ?_⟩
  · rw [drop_eq hx]; exact f1
  · rw [drop_eq hx, List.append_assoc]; exact f2
theorem Far.same {xs ys : List Int} {i j : Nat} {mz uz : List Int} {x y : Int} (f : Far xs ys i j mz uz) (ux : Up xs) (uy : Up ys) (hx : xs[i]? = some x) (hy : ys[j]? = some y) (h : x = y) : Far xs ys (i + 1) (j + 1) mz uz := by
  subst h
  obtain ⟨f1, f2⟩ := f
  have u1 := ux.drop i
  have u2 := uy.drop j
  rw [drop_eq hx, drop_eq hy] at f1 f2
  rw [drop_eq hx] at u1
  rw [drop_eq hy] at u2
  rw [dif_same u1] at f1
  rw [dif_same u2] at f2
  exact ⟨f1, f2⟩
theorem Far.endl {xs ys : List Int} {i j : Nat} {mz uz : List Int} (f : Far xs ys i j mz uz) (h : xs[i]? = none ∨ ys[j]? = none) : mz ++ xs.drop i = dif xs ys ∧ uz ++ ys.drop j = dif ys xs := by
  obtain ⟨f1, f2⟩ := f
  rcases h with h | h
  · rw [drop_end h] at f1 f2 ⊢
    rw [dif_nil] at f1
    rw [dif_none] at f2
    exact ⟨f1, f2⟩
  · rw [drop_end h] at f1 f2 ⊢
    rw [dif_none] at f1
    rw [dif_nil] at f2
    exact ⟨f1, f2⟩
theorem up_ne {xs : List Int} {i : Nat} {x y : Int} (u : Up xs) (hx : xs[i]? = some x) (hy : xs[i + 1]? = some y) : y ≠ x := by
  have u1 := u.drop i
  rw [drop_eq hx] at u1
  have : y ∈ xs.drop (i + 1) := by rw [drop_eq hy]; exact List.mem_cons_self
  exact fun q => u1.not_in (q ▸ this)
end

section


/-- the two places: p and q parts of both -/
structure Pq (p q : Int) : Prop where
  hp : 0 < p
  hq : 0 < q

def leftAt (p q s n : Int) : Int := (s - p * n) % (p + q)
def nU (p q s k : Int) : Int := ((p + q) * k + s) / p
def rU (p q s k : Int) : Int := ((p + q) * k + s) % p
def nL (p q s k : Int) : Int := -((s - (p + q) * k) / q) - 1
def rL (p q s k : Int) : Int := (s - (p + q) * k) % q

section
variable {p q s : Int} (H : Pq p q)
include H
theorem Pq.both : 0 < p + q := by have := H.hp; have := H.hq; omega
theorem leftAt_of {n k r : Int} (h : s - p * n = r + (p + q) * k) (h0 : 0 ≤ r) (h1 : r < p + q) : leftAt p q s n = r := by
  unfold leftAt
  rw [h, Int.add_mul_emod_self_left, Int.emod_eq_of_lt h0 h1]
theorem leftAt_bounds (n : Int) : 0 ≤ leftAt p q s n ∧ leftAt p q s n < p + q :=
  ⟨Int.emod_nonneg _ (by have := H.both; omega), Int.emod_lt_of_pos _ H.both⟩
theorem leftAt_ex (n : Int) : ∃ k, s - p * n = leftAt p q s n + (p + q) * k := ⟨(s - p * n) / (p + q), by unfold leftAt; exact (Int.emod_add_mul_ediv _ _).symm⟩
theorem nU_spec (k : Int) : (p + q) * k + s = rU p q s k + p * nU p q s k ∧ 0 ≤ rU p q s k ∧ rU p q s k < p :=
  ⟨(Int.emod_add_mul_ediv _ _).symm, Int.emod_nonneg _ (by have := H.hp; omega), Int.emod_lt_of_pos _ H.hp⟩
theorem nU_left (k : Int) : leftAt p q s (nU p q s k) = rU p q s k := by
  obtain ⟨h1, h2, h3⟩ := nU_spec (s := s) H k
  have := H.hq
  refine leftAt_of H (k := -k) ?_ h2 (by omega)
  rw [Int.mul_neg]; omega
theorem nU_of {n : Int} (h : leftAt p q s n < p) : ∃ k, nU p q s k = n := by
  obtain ⟨k, hk⟩ := leftAt_ex (s := s) H n
  obtain ⟨h0, _⟩ := leftAt_bounds (s := s) H n
  refine ⟨-k, ?_⟩
  unfold nU
  have e : (p + q) * -k + s = leftAt p q s n + p * n := by rw [Int.mul_neg]; omega
  have hp0 : p ≠ 0 := by have := H.hp; omega
  rw [e, Int.add_mul_ediv_left _ _ hp0, Int.ediv_eq_zero_of_lt h0 h, Int.zero_add]
theorem nU_step (k : Int) : nU p q s k + 1 ≤ nU p q s (k + 1) := by
  unfold nU
  have hp := H.hp
  have hq := H.hq
  have hp0 : p ≠ 0 := by omega
  have e : ((p + q) * k + s) / p + 1 = ((p + q) * k + s + p) / p := by
    have := Int.add_mul_ediv_left ((p + q) * k + s) 1 hp0
    rw [Int.mul_one] at this; exact this.symm
  rw [e]
  refine Int.ediv_le_ediv hp ?_
  rw [Int.mul_add, Int.mul_one]; omega
theorem nU_up (k : Int) : ∀ j : Nat, nU p q s k + j ≤ nU p q s (k + j)
  | 0 => by simp
  | j + 1 => by
    have h1 := nU_up k j
    have h2 := nU_step (s := s) H (k + j)
    have e : k + ((j + 1 : Nat) : Int) = k + (j : Int) + 1 := by omega
    rw [e]; omega
theorem nU_ge {k k' : Int} (h : k ≤ k') : nU p q s k + (k' - k) ≤ nU p q s k' := by
  have := nU_up (s := s) H k (k' - k).toNat
  have e : k + ((k' - k).toNat : Int) = k' := by omega
  rw [e] at this
  omega
def aheadAt (p q s b : Int) : Int := -((s - p * b) / (p + q))
theorem ahead_iff (b k : Int) : b ≤ nU p q s k ↔ aheadAt p q s b ≤ k := by
  have hp := H.hp
  have hb := H.both
  unfold nU aheadAt
  rw [Int.le_ediv_iff_mul_le hp]
  have e : -((s - p * b) / (p + q)) ≤ k ↔ -k ≤ (s - p * b) / (p + q) := by omega
  rw [e, Int.le_ediv_iff_mul_le hb, Int.neg_mul, Int.mul_comm k (p + q), Int.mul_comm b p]
  omega

theorem nL_spec (k : Int) : s - (p + q) * k = rL p q s k + q * -(nL p q s k + 1) ∧ 0 ≤ rL p q s k ∧ rL p q s k < q := by
  refine ⟨?_, Int.emod_nonneg _ (by have := H.hq; omega), Int.emod_lt_of_pos _ H.hq⟩
  have e : -(nL p q s k + 1) = (s - (p + q) * k) / q := by unfold nL; omega
  rw [e]; exact (Int.emod_add_mul_ediv _ _).symm
theorem nL_left (k : Int) : leftAt p q s (nL p q s k) = p + rL p q s k := by
  obtain ⟨h1, h2, h3⟩ := nL_spec (s := s) H k
  have hp := H.hp
  generalize rL p q s k = r at h1 h2 h3 ⊢
  generalize nL p q s k = n at h1 ⊢
  refine leftAt_of H (k := k - 1 - n) ?_ (by omega) (by omega)
  rw [Int.mul_neg, Int.mul_add, Int.mul_one] at h1
  rw [Int.mul_sub, Int.mul_sub, Int.mul_one, Int.add_mul, Int.add_mul]
  rw [Int.add_mul] at h1
  omega
theorem nL_of {n : Int} (h : p ≤ leftAt p q s n) : ∃ k, nL p q s k = n := by
  obtain ⟨k, hk⟩ := leftAt_ex (s := s) H n
  obtain ⟨_, h1⟩ := leftAt_bounds (s := s) H n
  generalize leftAt p q s n = l at hk h h1
  refine ⟨n + k + 1, ?_⟩
  unfold nL
  have e : s - (p + q) * (n + k + 1) = (l - p) + q * (-n - 1) := by
    rw [Int.mul_add, Int.mul_add, Int.mul_one, Int.add_mul, Int.add_mul, Int.mul_sub, Int.mul_one, Int.mul_neg]
    rw [Int.add_mul] at hk
    omega
  have hq0 : q ≠ 0 := by have := H.hq; omega
  rw [e, Int.add_mul_ediv_left _ _ hq0, Int.ediv_eq_zero_of_lt (by omega) (by omega)]
  omega
theorem nL_step (k : Int) : nL p q s k + 1 ≤ nL p q s (k + 1) := by
  unfold nL
  have hp := H.hp
  have hq := H.hq
  have hq0 : q ≠ 0 := by omega
  have e : (s - (p + q) * (k + 1)) / q ≤ (s - (p + q) * k) / q - 1 := by
    have := Int.add_mul_ediv_left (s - (p + q) * k) (-1) hq0
    have e2 : (s - (p + q) * k) / q - 1 = (s - (p + q) * k + q * -1) / q := by rw [this]; omega
    rw [e2]
    refine Int.ediv_le_ediv hq ?_
    rw [Int.mul_add, Int.mul_one, Int.mul_neg, Int.mul_one]; omega
  omega
theorem nL_up (k : Int) : ∀ j : Nat, nL p q s k + j ≤ nL p q s (k + j)
  | 0 => by simp
  | j + 1 => by
    have h1 := nL_up k j
    have h2 := nL_step (s := s) H (k + j)
    have e : k + ((j + 1 : Nat) : Int) = k + (j : Int) + 1 := by omega
    rw [e]; omega
theorem nL_ge {k k' : Int} (h : k ≤ k') : nL p q s k + (k' - k) ≤ nL p q s k' := by
  have := nL_up (s := s) H k (k' - k).toNat
  have e : k + ((k' - k).toNat : Int) = k' := by omega
  rw [e] at this
  omega
def behindAt (p q s b : Int) : Int := (s + q * b) / (p + q) + 1
theorem behind_iff (b k : Int) : b ≤ nL p q s k ↔ behindAt p q s b ≤ k := by
  have hq := H.hq
  have hb := H.both
  unfold nL behindAt
  have e1 : b ≤ -((s - (p + q) * k) / q) - 1 ↔ (s - (p + q) * k) / q < -b := by omega
  have e2 : (s + q * b) / (p + q) + 1 ≤ k ↔ (s + q * b) / (p + q) < k := by omega
  rw [e1, e2, Int.ediv_lt_iff_lt_mul hq, Int.ediv_lt_iff_lt_mul hb, Int.neg_mul, Int.mul_comm b q, Int.mul_comm k (p + q)]
  omega
end
end

section


theorem up_ext : ∀ {a b : List Int}, Up a → Up b → (∀ x, x ∈ a ↔ x ∈ b) → a = b
  | [], [], _, _, _ => rfl
  | [], y :: _, _, _, h => nomatch (h y).mpr List.mem_cons_self
  | x :: _, [], _, _, h => nomatch (h x).mp List.mem_cons_self
  | x :: xs, y :: ys, hx, hy, h => by
    have hx' := List.pairwise_cons.mp hx
    have hy' := List.pairwise_cons.mp hy
    have e : x = y := by
      have h1 := (h x).mp List.mem_cons_self
      have h2 := (h y).mpr List.mem_cons_self
      rcases List.mem_cons.mp h1 with e | h1
      · exact e
      rcases List.mem_cons.mp h2 with e | h2
      · exact e.symm
      have := hy'.1 x h1
      have := hx'.1 y h2
      omega
    subst e
    rw [up_ext hx'.2 hy'.2 fun z => ?_]
    have hz := h z
    rw [List.mem_cons, List.mem_cons] at hz
    constructor
    · intro m
      rcases hz.mp (.inr m) with e | e
      · exact absurd m (e ▸ Up.not_in hx)
      · exact e
    · intro m
      rcases hz.mpr (.inr m) with e | e
      · exact absurd m (e ▸ Up.not_in hy)
      · exact e

def win (b : Int) : List Int := (List.range 12).map fun (k : Nat) => b + (k : Int)
theorem win_mem {b n : Int} : n ∈ win b ↔ b ≤ n ∧ n ≤ b + 11 := by
  unfold win
  rw [List.mem_map]
  constructor
  · rintro ⟨k, hk, rfl⟩
    have := List.mem_range.mp hk
    omega
  · rintro ⟨h1, h2⟩
    exact ⟨(n - b).toNat, List.mem_range.mpr (by omega), by omega⟩
theorem win_up (b : Int) : Up (win b) := by
  unfold win
  rw [Up, List.pairwise_map]
  exact List.pairwise_lt_range.imp fun h => by omega
theorem win_length (b : Int) : (win b).length = 12 := by unfold win; rw [List.length_map, List.length_range]

section
variable {p q s : Int} (H : Pq p q) {b : Int}
def usU (p q s b : Int) (t : Nat) : List (Int × Int) := (List.range t).map fun (j : Nat) => (nU p q s (aheadAt p q s b + (j : Int)), rU p q s (aheadAt p q s b + (j : Int)))
def usL (p q s b : Int) (t : Nat) : List (Int × Int) := (List.range t).map fun (j : Nat) => (nL p q s (behindAt p q s b + (j : Int)), -rL p q s (behindAt p q s b + (j : Int)))
theorem usU_succ (t : Nat) : usU p q s b (t + 1) = usU p q s b t ++ [(nU p q s (aheadAt p q s b + (t : Int)), rU p q s (aheadAt p q s b + (t : Int)))] := by
  unfold usU; rw [List.range_succ, List.map_append]; rfl
theorem usL_succ (t : Nat) : usL p q s b (t + 1) = usL p q s b t ++ [(nL p q s (behindAt p q s b + (t : Int)), -rL p q s (behindAt p q s b + (t : Int)))] := by
  unfold usL; rw [List.range_succ, List.map_append]; rfl
def lowF (p q s : Int) (n : Int) : Bool := decide (leftAt p q s n < p)
def mineOf (p q s b : Int) : List Int := (win b).filter (lowF p q s)
def yoursOf (p q s b : Int) : List Int := (win b).filter fun n => !lowF p q s n
include H
theorem fullU {t : Nat} (h : ∀ j : Nat, j < t → nU p q s (aheadAt p q s b + (j : Int)) ≤ b + 11) (hb : b + 11 < nU p q s (aheadAt p q s b + (t : Int))) :
    usU p q s b t = (mineOf p q s b).map fun n => (n, leftAt p q s n) := by
  have e0 : usU p q s b t = ((List.range t).map fun (j : Nat) => nU p q s (aheadAt p q s b + (j : Int))).map fun n => (n, leftAt p q s n) := by
    unfold usU
    rw [List.map_map]
    refine List.map_congr_left fun j _ => ?_
    show _ = (_, _)
    rw [nU_left H]
  rw [e0]
  congr 1
  refine up_ext ?_ ((win_up b).filter _) fun n => ?_
  · rw [Up, List.pairwise_map]
    exact List.pairwise_lt_range.imp fun {i j} hij => by
      have := nU_ge (s := s) H (show aheadAt p q s b + (i : Int) ≤ aheadAt p q s b + (j : Int) by omega)
      omega
  · rw [List.mem_map, mineOf, List.mem_filter, win_mem]
    constructor
    · rintro ⟨j, hj, rfl⟩
      have hj := List.mem_range.mp hj
      refine ⟨⟨(ahead_iff H b _).mpr (by omega), h j hj⟩, ?_⟩
      unfold lowF
      rw [nU_left H]
      exact decide_eq_true (nU_spec H _).2.2
    · rintro ⟨⟨h1, h2⟩, h3⟩
      obtain ⟨k, rfl⟩ := nU_of (s := s) H (of_decide_eq_true h3)
      have h4 := (ahead_iff H b k).mp h1
      refine ⟨(k - aheadAt p q s b).toNat, List.mem_range.mpr ?_, by congr 1; omega⟩
      have h5 : ¬ aheadAt p q s b + (t : Int) ≤ k := fun h6 => by
        have := nU_ge (s := s) H h6; omega
      omega
theorem fullL {t : Nat} (h : ∀ j : Nat, j < t → nL p q s (behindAt p q s b + (j : Int)) ≤ b + 11) (hb : b + 11 < nL p q s (behindAt p q s b + (t : Int))) :
    usL p q s b t = (yoursOf p q s b).map fun n => (n, p - leftAt p q s n) := by
  have e0 : usL p q s b t = ((List.range t).map fun (j : Nat) => nL p q s (behindAt p q s b + (j : Int))).map fun n => (n, p - leftAt p q s n) := by
    unfold usL
    rw [List.map_map]
    refine List.map_congr_left fun j _ => ?_
    show _ = (_, _)
    rw [nL_left H]
    congr 1
    omega
  rw [e0]
  congr 1
  refine up_ext ?_ ((win_up b).filter _) fun n => ?_
  · rw [Up, List.pairwise_map]
    exact List.pairwise_lt_range.imp fun {i j} hij => by
      have := nL_ge (s := s) H (show behindAt p q s b + (i : Int) ≤ behindAt p q s b + (j : Int) by omega)
      omega
  · rw [List.mem_map, yoursOf, List.mem_filter, win_mem]
    constructor
    · rintro ⟨j, hj, rfl⟩
      have hj := List.mem_range.mp hj
      refine ⟨⟨(behind_iff H b _).mpr (by omega), h j hj⟩, ?_⟩
      unfold lowF
      rw [nL_left H]
      have := (nL_spec (s := s) H (behindAt p q s b + (j : Int))).2.1
      rw [decide_eq_false (by omega)]; rfl
    · rintro ⟨⟨h1, h2⟩, h3⟩
      have h3' : ¬ leftAt p q s n < p := by
        intro h; unfold lowF at h3; rw [decide_eq_true h] at h3; exact absurd h3 (by decide)
      obtain ⟨k, rfl⟩ := nL_of (s := s) H (Int.not_lt.mp h3')
      have h4 := (behind_iff H b k).mp h1
      refine ⟨(k - behindAt p q s b).toNat, List.mem_range.mpr ?_, by congr 1; omega⟩
      have h5 : ¬ behindAt p q s b + (t : Int) ≤ k := fun h6 => by
        have := nL_ge (s := s) H h6; omega
      omega
theorem endU (t : Nat) (h : nU p q s (aheadAt p q s b + (t : Int)) ≤ b + 11) : t < 12 := by
  have h1 := (ahead_iff (s := s) H b (aheadAt p q s b)).mpr (Int.le_refl _)
  have h2 := nU_up (s := s) H (aheadAt p q s b) t
  omega
theorem endL (t : Nat) (h : nL p q s (behindAt p q s b + (t : Int)) ≤ b + 11) : t < 12 := by
  have h1 := (behind_iff (s := s) H b (behindAt p q s b)).mpr (Int.le_refl _)
  have h2 := nL_up (s := s) H (behindAt p q s b) t
  omega
end

theorem dif_filter (l : List Int) (f : Int → Bool) : dif l (l.filter f) = l.filter fun n => !f n := by
  unfold dif
  refine List.filter_congr fun x hx => ?_
  by_cases h : f x = true
  · simp [hx, h]
  · have h' : f x = false := by simpa using h
    simp [h']
theorem dif_sub {a b : List Int} (h : ∀ x ∈ a, x ∈ b) : dif a b = [] := by
  unfold dif
  refine List.filter_eq_nil_iff.mpr fun x hx => ?_
  simp [h x hx]
theorem dif_apart {a b : List Int} (h : ∀ x ∈ a, x ∉ b) : dif a b = a := by
  unfold dif
  refine List.filter_eq_self.mpr fun x hx => ?_
  simp [h x hx]
section
variable {p q s b : Int}
theorem dif_win_mine : dif (win b) (mineOf p q s b) = yoursOf p q s b := dif_filter _ _
theorem dif_mine_win : dif (mineOf p q s b) (win b) = [] := dif_sub fun _ h => (List.mem_filter.mp h).1
theorem dif_yours_win : dif (yoursOf p q s b) (win b) = [] := dif_sub fun _ h => (List.mem_filter.mp h).1
theorem dif_win_yours : dif (win b) (yoursOf p q s b) = mineOf p q s b := by
  have h := dif_filter (win b) fun n => !lowF p q s n
  simp only [Bool.not_not] at h
  exact h
theorem dif_mine_yours : dif (mineOf p q s b) (yoursOf p q s b) = mineOf p q s b := dif_apart fun x h1 h2 => by
  have a := (List.mem_filter.mp h1).2
  have c := (List.mem_filter.mp h2).2
  rw [a] at c; exact absurd c (by decide)
theorem dif_yours_mine : dif (yoursOf p q s b) (mineOf p q s b) = yoursOf p q s b := dif_apart fun x h1 h2 => by
  have a := (List.mem_filter.mp h1).2
  have c := (List.mem_filter.mp h2).2
  rw [c] at a; exact absurd a (by decide)
theorem mine_up : Up (mineOf p q s b) := (win_up b).filter _
theorem yours_up : Up (yoursOf p q s b) := (win_up b).filter _
theorem mine_len : (mineOf p q s b).length ≤ 12 := by rw [← win_length b]; exact List.length_filter_le _ _
theorem yours_len : (yoursOf p q s b).length ≤ 12 := by rw [← win_length b]; exact List.length_filter_le _ _
end
end

section
open PySem PySem.W PyProof.Rows

structure Lw (u : Nat) (p q s b : Int) : Prop where
  hu : u ≤ 4499
  pl : 2 ^ u ≤ p
  pu : p < 1001 * 2 ^ u
  ql : 2 ^ u ≤ q
  qu : q < 1001 * 2 ^ u
  s0 : 0 ≤ s
  s1 : s < p + q
  bl : -(256 * 2 ^ u) ≤ b
  bu : b < 256 * 2 ^ u
theorem Lw.pq {u : Nat} {p q s b : Int} (H : Lw u p q s b) : Pq p q := ⟨by have := H.pl; have := pow_pos2 u; omega, by have := H.ql; have := pow_pos2 u; omega⟩
theorem fit_of {a b : Int} {k l : Nat} (ha : a.natAbs < 2 ^ k) (hb : 2 ^ l ≤ b.natAbs) (hb' : b.natAbs < 2 ^ 7000) (h : k ≤ 99 * (l + 1)) : Fit a b := by
  have h1 : Builtin.Int.intBits b ≤ 7000 := intBits_le hb'
  have h2 : Builtin.Int.intBits a ≤ k := intBits_le ha
  have h3 : l + 1 ≤ Builtin.Int.intBits b := by
    have e : Builtin.Int.intBits b = Builtin.Int.intBits (b.natAbs : Int) := Nat.le_antisymm (bits_mono (by simp)) (bits_mono (by simp))
    rw [e]
    have hp : (0 : Int) < (b.natAbs : Int) := by have := Nat.lt_of_lt_of_le (Nat.pow_pos (n := l) (show 0 < 2 by decide)) hb; omega
    obtain ⟨_, _, g⟩ := bits_bounds hp rfl
    generalize Builtin.Int.intBits (b.natAbs : Int) = n at g ⊢
    have g' : b.natAbs < 2 ^ n := by rw [← pow_cast] at g; exact Int.ofNat_lt.mp g
    have := Nat.lt_of_le_of_lt hb g'
    exact (Nat.pow_lt_pow_iff_right (by decide)).mp this
  exact ⟨h1, Nat.le_trans h2 (Nat.le_trans h (Nat.mul_le_mul_left 99 h3))⟩
theorem sz_of {x : Int} {u : Nat} (hu : u ≤ 4499) (h : x.natAbs ≤ 100000 * 2 ^ u) : Sz x := by
  refine Sz.of_lt (k := 17 + u) (Nat.lt_of_le_of_lt h ?_) (by omega)
  rw [Nat.pow_add]
  exact Nat.mul_lt_mul_of_pos_right (by decide) (Nat.pow_pos (by decide))

theorem quo {z B Y : Int} (hB : 0 < B) (h1 : -(B * (Y + 2)) ≤ z) (h2 : z < B * (Y + 2)) : -(Y + 2) ≤ z / B ∧ z / B < Y + 2 := by
  rw [Int.le_ediv_iff_mul_le hB, Int.ediv_lt_iff_lt_mul hB, Int.neg_mul, Int.mul_comm (Y + 2) B]
  exact ⟨h1, h2⟩
theorem mul_in {p b Y B : Int} (hp : 0 < p) (hpB : p ≤ B) (hY : 0 ≤ Y) (h1 : -Y ≤ b) (h2 : b ≤ Y) : -(B * Y) ≤ p * b ∧ p * b ≤ B * Y := by
  have a1 : p * b ≤ p * Y := Int.mul_le_mul_of_nonneg_left h2 (Int.le_of_lt hp)
  have a2 : p * -Y ≤ p * b := Int.mul_le_mul_of_nonneg_left h1 (Int.le_of_lt hp)
  have a3 : p * Y ≤ B * Y := Int.mul_le_mul_of_nonneg_right hpB hY
  rw [Int.mul_neg] at a2
  omega
theorem abs_mul {x y : Int} {a c : Nat} (h1 : x.natAbs ≤ a) (h2 : y.natAbs ≤ c) : (x * y).natAbs ≤ a * c := by
  rw [Int.natAbs_mul]; exact Nat.mul_le_mul h1 h2
theorem sq_le (u : Nat) : 2 ^ u ≤ 2 ^ u * 2 ^ u := by
  have := Nat.mul_le_mul_left (2 ^ u) (Nat.pow_pos (n := u) (show 0 < 2 by decide))
  rw [Nat.mul_one] at this; exact this

section
variable {u : Nat} {p q s b : Int} (H : Lw u p q s b)
include H
theorem Lw.ahead : (aheadAt p q s b).natAbs ≤ 256 * 2 ^ u + 2 := by
  have hX := pow_pos2 u
  have hp := H.pq.hp
  have hq := H.pq.hq
  have hs0 := H.s0
  have hs1 := H.s1
  have hb1 := H.bl
  have hb2 := H.bu
  have hc := pow_cast u
  obtain ⟨a1, a2⟩ := mul_in (b := b) (Y := 256 * 2 ^ u) hp (show p ≤ p + q by omega) (by omega) hb1 (by omega)
  have e : (p + q) * ((256 * 2 ^ u : Int) + 2) = (p + q) * (256 * 2 ^ u : Int) + (p + q) * 2 := Int.mul_add _ _ _
  generalize (p + q) * (256 * 2 ^ u : Int) = M at a1 a2 e
  have := quo (z := s - p * b) (B := p + q) (Y := 256 * 2 ^ u) (by omega) (by rw [e]; omega) (by rw [e]; omega)
  unfold aheadAt
  generalize (s - p * b) / (p + q) = z at this ⊢
  omega
theorem Lw.behind : (behindAt p q s b).natAbs ≤ 256 * 2 ^ u + 3 := by
  have hX := pow_pos2 u
  have hp := H.pq.hp
  have hq := H.pq.hq
  have hs0 := H.s0
  have hs1 := H.s1
  have hb1 := H.bl
  have hb2 := H.bu
  have hc := pow_cast u
  obtain ⟨a1, a2⟩ := mul_in (b := b) (Y := 256 * 2 ^ u) hq (show q ≤ p + q by omega) (by omega) hb1 (by omega)
  have e : (p + q) * ((256 * 2 ^ u : Int) + 2) = (p + q) * (256 * 2 ^ u : Int) + (p + q) * 2 := Int.mul_add _ _ _
  generalize (p + q) * (256 * 2 ^ u : Int) = M at a1 a2 e
  have := quo (z := s + q * b) (B := p + q) (Y := 256 * 2 ^ u) (by omega) (by rw [e]; omega) (by rw [e]; omega)
  unfold behindAt
  generalize (s + q * b) / (p + q) = z at this ⊢
  omega
theorem Lw.abs : p.natAbs ≤ 1001 * 2 ^ u ∧ q.natAbs ≤ 1001 * 2 ^ u ∧ (p + q).natAbs ≤ 2002 * 2 ^ u ∧ s.natAbs ≤ 2002 * 2 ^ u ∧ b.natAbs ≤ 256 * 2 ^ u ∧ 2 ^ u ≤ p.natAbs ∧ 2 ^ u ≤ q.natAbs ∧ 2 ^ u ≤ (p + q).natAbs := by
  have hX := pow_pos2 u
  obtain ⟨_, h1, h2, h3, h4, h5, h6, h7, h8⟩ := H
  have hc := pow_cast u
  refine ⟨?_, ?_, ?_, ?_, ?_, ?_, ?_, ?_⟩ <;> omega
theorem Lw.szp : Sz p := sz_of H.hu (by have := H.abs.1; omega)
theorem Lw.szq : Sz q := sz_of H.hu (by have := H.abs.2.1; omega)
theorem Lw.szB : Sz (p + q) := sz_of H.hu (by have := H.abs.2.2.1; omega)
theorem Lw.szb : Sz b := sz_of H.hu (by have := H.abs.2.2.2.2.1; omega)
theorem Lw.szn {n : Int} (h : n ∈ win b) : Sz n := sz_of H.hu (by
  have h1 := win_mem.mp h
  have h2 := H.abs.2.2.2.2.1
  have h3 := Nat.pow_pos (n := u) (show 0 < 2 by decide)
  omega)
theorem Lw.sza {t : Nat} (h : t ≤ 12) : Sz (aheadAt p q s b + (t : Int)) := sz_of H.hu (by
  have h2 := H.ahead
  have h3 := Nat.pow_pos (n := u) (show 0 < 2 by decide)
  omega)
theorem Lw.szl {t : Nat} (h : t ≤ 12) : Sz (behindAt p q s b + (t : Int)) := sz_of H.hu (by
  have h2 := H.behind
  have h3 := Nat.pow_pos (n := u) (show 0 < 2 by decide)
  omega)
theorem Lw.small {x : Int} (h : x.natAbs ≤ 2002 * 2 ^ u) : x.natAbs < 2 ^ 7000 := by
  have hu := H.hu
  have h1 : 2 ^ u ≤ 2 ^ 4499 := Nat.pow_le_pow_right (by decide) hu
  have h2 : 2002 * 2 ^ u ≤ 2002 * 2 ^ 4499 := Nat.mul_le_mul_left _ h1
  have h3 : 2002 * 2 ^ 4499 < 2 ^ 7000 := by decide +kernel
  omega
theorem Lw.fitof {a c : Int} (h1 : a.natAbs < 1048576 * (2 ^ u * 2 ^ u)) (h2 : 2 ^ u ≤ c.natAbs) (h3 : c.natAbs ≤ 2002 * 2 ^ u) : Fit a c := by
  have hu := H.hu
  refine fit_of (k := 20 + (u + u)) (l := u) ?_ h2 (H.small h3) (by omega)
  rw [Nat.pow_add, Nat.pow_add]; exact h1
theorem Lw.fit1 : Fit (s - p * b) (p + q) := by
  obtain ⟨a1, a2, a3, a4, a5, a6, a7, a8⟩ := H.abs
  refine H.fitof ?_ a8 a3
  have m := abs_mul a1 a5
  have e : 1001 * 2 ^ u * (256 * 2 ^ u) = 256256 * (2 ^ u * 2 ^ u) := by rw [Nat.mul_mul_mul_comm]
  have hx := sq_le u
  have h3 := Nat.pow_pos (n := u) (show 0 < 2 by decide)
  rw [e] at m
  generalize p * b = z at m ⊢
  generalize 2 ^ u * 2 ^ u = XX at m hx ⊢
  omega
theorem Lw.fit3 : Fit (s + q * b) (p + q) := by
  obtain ⟨a1, a2, a3, a4, a5, a6, a7, a8⟩ := H.abs
  refine H.fitof ?_ a8 a3
  have m := abs_mul a2 a5
  have e : 1001 * 2 ^ u * (256 * 2 ^ u) = 256256 * (2 ^ u * 2 ^ u) := by rw [Nat.mul_mul_mul_comm]
  have hx := sq_le u
  have h3 := Nat.pow_pos (n := u) (show 0 < 2 by decide)
  rw [e] at m
  generalize q * b = z at m ⊢
  generalize 2 ^ u * 2 ^ u = XX at m hx ⊢
  omega
theorem Lw.fit2 {t : Nat} (h : t ≤ 12) : Fit ((p + q) * (aheadAt p q s b + (t : Int)) + s) p := by
  obtain ⟨a1, a2, a3, a4, a5, a6, a7, a8⟩ := H.abs
  refine H.fitof ?_ a6 (by omega)
  have h2 := H.ahead
  have h3 := Nat.pow_pos (n := u) (show 0 < 2 by decide)
  have m := abs_mul (y := aheadAt p q s b + (t : Int)) (c := 270 * 2 ^ u) a3 (by omega)
  have e : 2002 * 2 ^ u * (270 * 2 ^ u) = 540540 * (2 ^ u * 2 ^ u) := by rw [Nat.mul_mul_mul_comm]
  have hx := sq_le u
  rw [e] at m
  generalize (p + q) * (aheadAt p q s b + (t : Int)) = z at m ⊢
  generalize 2 ^ u * 2 ^ u = XX at m hx ⊢
  omega
theorem Lw.fit4 {t : Nat} (h : t ≤ 12) : Fit ((p + q) * (behindAt p q s b + (t : Int)) - s) (-q) := by
  obtain ⟨a1, a2, a3, a4, a5, a6, a7, a8⟩ := H.abs
  refine H.fitof ?_ (by omega) (by omega)
  have h2 := H.behind
  have h3 := Nat.pow_pos (n := u) (show 0 < 2 by decide)
  have m := abs_mul (y := behindAt p q s b + (t : Int)) (c := 271 * 2 ^ u) a3 (by omega)
  have e : 2002 * 2 ^ u * (271 * 2 ^ u) = 542542 * (2 ^ u * 2 ^ u) := by rw [Nat.mul_mul_mul_comm]
  have hx := sq_le u
  rw [e] at m
  generalize (p + q) * (behindAt p q s b + (t : Int)) = z at m ⊢
  generalize 2 ^ u * 2 ^ u = XX at m hx ⊢
  omega
end

/-- what the cells of the script make -/
theorem lw_of (c0 c1 c2 c3 c4 c5 c6 : Int) (u : Nat) (hu : (c3.natAbs : Int) % 4500 = (u : Int)) :
    Lw u ((1 + (c0.natAbs : Int) % 1000) * 2 ^ u + c4 % 2 ^ u) ((1 + (c1.natAbs : Int) % 1000) * 2 ^ u + c5 % 2 ^ u)
      (c2 % ((1 + (c0.natAbs : Int) % 1000) * 2 ^ u + c4 % 2 ^ u + ((1 + (c1.natAbs : Int) % 1000) * 2 ^ u + c5 % 2 ^ u))) (c6 % (512 * 2 ^ u) - 256 * 2 ^ u) := by
  have hX := pow_pos2 u
  have part : ∀ k r : Int, 0 ≤ k → k ≤ 999 → 0 ≤ r → r < 2 ^ u → 2 ^ u ≤ (1 + k) * 2 ^ u + r ∧ (1 + k) * 2 ^ u + r < 1001 * 2 ^ u := fun k r h1 h2 h3 h4 => by
    have a1 : 1 * (2 ^ u : Int) ≤ (1 + k) * 2 ^ u := Int.mul_le_mul_of_nonneg_right (by omega) (Int.le_of_lt hX)
    have a2 : (1 + k) * (2 ^ u : Int) ≤ 1000 * 2 ^ u := Int.mul_le_mul_of_nonneg_right (by omega) (Int.le_of_lt hX)
    generalize (1 + k) * (2 ^ u : Int) = z at a1 a2 ⊢
    omega
  have r4 := Int.emod_nonneg c4 (Int.ne_of_gt hX)
  have r4' := Int.emod_lt_of_pos c4 hX
  have r5 := Int.emod_nonneg c5 (Int.ne_of_gt hX)
  have r5' := Int.emod_lt_of_pos c5 hX
  obtain ⟨p1, p2⟩ := part ((c0.natAbs : Int) % 1000) (c4 % 2 ^ u) (by omega) (by omega) r4 r4'
  obtain ⟨q1, q2⟩ := part ((c1.natAbs : Int) % 1000) (c5 % 2 ^ u) (by omega) (by omega) r5 r5'
  generalize (1 + (c0.natAbs : Int) % 1000) * 2 ^ u + c4 % 2 ^ u = p at p1 p2 ⊢
  generalize (1 + (c1.natAbs : Int) % 1000) * 2 ^ u + c5 % 2 ^ u = q at q1 q2 ⊢
  have hB : 0 < p + q := by omega
  have h5 : (0 : Int) < 512 * 2 ^ u := by omega
  have g1 := Int.emod_nonneg c6 (Int.ne_of_gt h5)
  have g2 := Int.emod_lt_of_pos c6 h5
  exact ⟨by omega, p1, p2, q1, q2, Int.emod_nonneg _ (Int.ne_of_gt hB), Int.emod_lt_of_pos _ hB, by omega, by omega⟩
end

section
open PySem PySem.W PyProof.Rows

theorem abs_if (c : Int) : (if c < 0 then -c else c) = (c.natAbs : Int) := by split <;> omega
structure Lx (c0 c1 c2 c3 c4 c5 c6 : Int) (u : Nat) (p q s b : Int) : Prop where
  H : Lw u p q s b
  eu : (if c3 < 0 then -c3 else c3).fmod 4500 = (u : Int)
  ep : (1 + (if c0 < 0 then -c0 else c0).fmod 1000) * 2 ^ u + c4.fmod (2 ^ u) = p
  eq : (1 + (if c1 < 0 then -c1 else c1).fmod 1000) * 2 ^ u + c5.fmod (2 ^ u) = q
  es : c2.fmod (p + q) = s
  eb : c6.fmod (512 * 2 ^ u) - 256 * 2 ^ u = b
  zU : Sz (2 ^ u)
  z0 : Sz (1 + (if c0 < 0 then -c0 else c0).fmod 1000)
  z1 : Sz (1 + (if c1 < 0 then -c1 else c1).fmod 1000)
  nU : (2 ^ u : Int) ≠ 0
  n5 : (512 * 2 ^ u : Int) ≠ 0
  nB : p + q ≠ 0
theorem lw_ex (c0 c1 c2 c3 c4 c5 c6 : Int) : ∃ (u : Nat) (p q s b : Int), Lx c0 c1 c2 c3 c4 c5 c6 u p q s b := by
  obtain ⟨u, hu⟩ : ∃ u : Nat, (c3.natAbs : Int) % 4500 = (u : Int) := ⟨c3.natAbs % 4500, by omega⟩
  have H := lw_of c0 c1 c2 c3 c4 c5 c6 u hu
  have hX := pow_pos2 u
  have hB := H.pq.both
  have n1 : ∀ c : Int, Sz (1 + (if c < 0 then -c else c).fmod 1000) := fun c => by
    rw [abs_if, Int.fmod_eq_emod_of_nonneg _ (by decide)]
    have h1 := Int.emod_nonneg (c.natAbs : Int) (show (1000 : Int) ≠ 0 by decide)
    have h2 := Int.emod_lt_of_pos (c.natAbs : Int) (show (0 : Int) < 1000 by decide)
    exact .of_nn (k := 11) (by omega) (by have : (2 ^ 11 : Int) = 2048 := rfl; omega) (by decide)
  refine ⟨u, _, _, _, _, H, ?_, ?_, ?_, ?_, ?_, ?_, n1 c0, n1 c1, by omega, by omega, by omega⟩
  · rw [abs_if, Int.fmod_eq_emod_of_nonneg _ (by decide)]; exact hu
  · rw [abs_if, Int.fmod_eq_emod_of_nonneg _ (by decide), Int.fmod_eq_emod_of_nonneg _ (by omega)]
  · rw [abs_if, Int.fmod_eq_emod_of_nonneg _ (by decide), Int.fmod_eq_emod_of_nonneg _ (by omega)]
  · exact Int.fmod_eq_emod_of_nonneg _ (by omega)
  · rw [Int.fmod_eq_emod_of_nonneg _ (by omega)]
  · refine sz_of H.hu ?_
    have e : ((2 ^ u : Int)).natAbs = 2 ^ u := by rw [← pow_cast]; rfl
    rw [e]; omega
theorem seven {xs : List Int} (h : xs.length = 7) : ∃ c0 c1 c2 c3 c4 c5 c6, xs = [c0, c1, c2, c3, c4, c5, c6] := by
  match xs, h with
  | [c0, c1, c2, c3, c4, c5, c6], _ => exact ⟨_, _, _, _, _, _, _, rfl⟩
theorem cells_seven (ws : List Int) : (ws.take 7 ++ List.drop (ws.length : Int).toNat [4, 2, -3, 4200, -1, -2, 5]).length = 7 := by
  simp only [List.length_append, List.length_take, List.length_drop, List.length_cons, List.length_nil, Int.toNat_natCast]; omega
end

section
open PySem PySem.Spec PySem.Calls PySem.W PyProof.Rows
set_option maxRecDepth 100000


section
open PySem PySem.Spec PySem.Calls PySem.W PyProof.Rows
set_option maxRecDepth 100000

abbrev PR : Program := PySem.Challenge.rw_tx0024_01.row.prog
theorem fill : ∀ (w : World), hd.heap_39 w.params = hd.heap_39 w.params ∧ PySem.Challenge.rw_tx0024_01.prog = PySem.Challenge.rw_tx0024_01.prog := by
  k_fill
  intro w; exact ⟨rfl, rfl⟩

abbrev tup2 (x : Int) (t : Tok) (y : Int) (u : Tok) (c : Nat) : Obj := { cls := .type "tuple", data := .seq #[.int x t, .int y u] c }

def TupC (w : World) (f : Addr) (news : List (Addr × Obj)) (vs : List Value) (x y : Int) (k : Nat) : Prop :=
  ∀ (p : Program) (loose : List Str) (mean : ExcName → Option Value) (mg mb : Str → Option Value) (dp un : Nat) (gd : Option (List Code)) (cn : Str) (cs : Scope) (a : Addr) (ccd : Value) (cl : List (Str × Addr)) (outer : List Env) (A₀ : Around) (base h₀ : Heap) (L : Addr) (m : Str → Option Value) (s : Shared) (Q E : Value → Shared → Prop),
    Below A₀ base outer h₀ → Fr h₀ L s.heap m → (hd.heap_39 w.params).In h₀ → News h₀ L s.heap news → Top p loose mean mg mb h₀ → cs.kind = .function →
    dp + k < recursionLimit → un + 8 * k < cLine →
    (∀ D t1 t2 c h' tk, Fr h₀ L h' m → News h₀ L h' ((D, tup2 x t1 y t2 c) :: news) → AllLt D news → Q (.ref D) { s with heap := h', toks := tk }) →
    wpAny (model PR w) (ktrTop dp un gd cn cs L a ccd cl outer) (call (.ref f) vs) Q E s

theorem allLt_news {h₀ h : Heap} {L : Addr} {news : List (Addr × Obj)} (N : News h₀ L h news) : AllLt h.objs.size news := allLt_of fun q hq => Heap.lt_size (N q hq).1

theorem news_drop2 {h₀ h : Heap} {L : Addr} {a b : Addr × Obj} {news : List (Addr × Obj)} (N : News h₀ L h (a :: b :: news)) : News h₀ L h (a :: news) := fun p hp => N p (by
  rcases List.mem_cons.mp hp with rfl | hp
  · exact .head _
  · exact .tail _ (.tail _ hp))

theorem News.subs {h₀ h : Heap} {L : Addr} {e : Addr × Obj} {nx news : List (Addr × Obj)} (N : News h₀ L h nx) (hm : e ∈ nx) (hs : ∀ p ∈ news, p ∈ nx) : News h₀ L h (e :: news) := fun p hp => by
  rcases List.mem_cons.mp hp with rfl | hp
  · exact N _ hm
  · exact N p (hs p hp)
theorem sub_refl {news : List (Addr × Obj)} : ∀ p ∈ news, p ∈ news := fun _ h => h
theorem sub_cons {e : Addr × Obj} {nx news : List (Addr × Obj)} (h : ∀ p ∈ news, p ∈ nx) : ∀ p ∈ news, p ∈ e :: nx := fun p hp => .tail _ (h p hp)

theorem TupC.use {w : World} {f : Addr} {news : List (Addr × Obj)} {vs : List Value} {x y : Int} {k : Nat} (C : TupC w f news vs x y k)
    {p : Program} {loose : List Str} {mean : ExcName → Option Value} {mg mb : Str → Option Value} {dp un : Nat} {gd : Option (List Code)} {cn : Str} {cs : Scope} {a : Addr} {ccd : Value} {cl : List (Str × Addr)} {outer : List Env} {A₀ : Around} {base h₀ : Heap} {L : Addr} {m : Str → Option Value} {s : Shared} {Q E : Value → Shared → Prop}
    (B : Below A₀ base outer h₀) (F : Fr h₀ L s.heap m) (X : (hd.heap_39 w.params).In h₀) (N : News h₀ L s.heap news) (T : Top p loose mean mg mb h₀) (hk : cs.kind = .function)
    (hd : dp + k < recursionLimit) (hu : un + 8 * k < cLine)
    (h : ∀ D t1 t2 c h' tk, Fr h₀ L h' m → News h₀ L h' ((D, tup2 x t1 y t2 c) :: news) → AllLt D news → Q (.ref D) { s with heap := h', toks := tk }) :
    wpAny (model PR w) (ktrTop dp un gd cn cs L a ccd cl outer) (call (.ref f) vs) Q E s := C p loose mean mg mb dp un gd cn cs a ccd cl outer A₀ base h₀ L m s Q E B F X N T hk hd hu h

local macro_rules | `(tactic| walk_at "MINE a") => `(tactic| (k_here; k_dflt (refine' TupC.use ?C ?B ?F ?X ?N ?T ?hk ?hd ?hu ?_; (case N => k_asm); (case F => k_asm))))
local macro_rules | `(tactic| walk_at "MINE b") => `(tactic| (k_dflt ((case B => k_asm); (case X => k_asm); (case T => k_asm); (case hk => first | exact rfl | assumption); (case hd => ktr_room); (case hu => ktr_units); k_whole); intro D' t1' t2' c' h' tk' F' N' l1; (try dsimp only); (try k_sweep); (try k_fold)))

local macro_rules | `(tactic| walk_at "binaryOp RShift int int") => `(tactic| k_extra "M binaryOp RShift int int")
local macro_rules | `(tactic| walk_at "binaryOp LShift int int") => `(tactic| k_extra "M binaryOp LShift int int")
local macro_rules | `(tactic| walk_at "binaryOp BitOr int int") => `(tactic| k_extra "M binaryOp BitOr int int")
local macro_rules | `(tactic| walk_at "binaryOp Mult int int") => `(tactic| k_extra "M binaryOp Mult int int")
local macro_rules | `(tactic| walk_at "call ref") => `(tactic| k_extra "M call ref")
local macro_rules | `(tactic| walk_at "exec While Compare cons nil") => `(tactic| k_extra "M exec While Compare cons nil")
local macro_rules | `(tactic| walk_at "call builtin:divmod") => `(tactic| k_extra "M call builtin:divmod")

set_option maxHeartbeats 4000000 in
theorem d2base (w : World) (news : List (Addr × Obj)) (a b n : Int) (ta tb tn : Tok) (hb : 0 < b) (hn : (Builtin.Int.intBits a : Int) - n ≤ 4000) (hbl : b.natAbs.log2 < 9000) :
    TupC w 21 news [.int a ta, .int b tb, .int n tn] (a / b) (a % b) 1 := by
  unfold TupC
  intro p loose mean mg mb dp un gd cn cs fa ccd cl outer A₀ base h₀ L m s Q E B F X N T hk hd hu hret
  have hne : b ≠ 0 := by omega
  rw [← Int.fdiv_eq_ediv_of_nonneg a (by omega : 0 ≤ b), ← Int.fmod_eq_emod_of_nonneg a (by omega : 0 ≤ b)] at hret
  k_with_none
  k_with "M call builtin:divmod" => (refine' divmod_N (by assumption) (by assumption) hne ?_ (Or.inl (PyProof.noPylong_of_log2 hbl)); intro _ _ _)
  refine wpAny_call ?_
  k_dflt ktr_enter
  k_steps
  exact hret _ _ _ _ _ _ (by assumption) (by assumption) (allLt_news (by assumption))

theorem log2_lt {b : Int} {n k : Nat} (h0 : 0 < b) (h : b < 2 ^ n) (hk : n ≤ k) : b.natAbs.log2 < k := by
  have hb : b.natAbs ≠ 0 := by omega
  have h1 : b.natAbs < 2 ^ n := by
    have : ((b.natAbs : Int)) < ((2 ^ n : Nat) : Int) := by push_cast; omega
    exact_mod_cast this
  have := (Nat.log2_lt hb).mpr h1
  omega
theorem bits_le {a : Int} {n : Nat} (h0 : 0 ≤ a) (h : a < 2 ^ n) : Builtin.Int.intBits a ≤ n := by
  refine intBits_le ?_
  have : ((a.natAbs : Int)) < ((2 ^ n : Nat) : Int) := by push_cast; omega
  exact_mod_cast this

set_option maxHeartbeats 4000000 in
theorem d3 (w : World) (news : List (Addr × Obj)) (a12 a3 b b1 b2 : Int) (n : Nat) (ta ta3 tb tb1 tb2 tn : Tok) (hn : n ≤ 4000) (ha : 0 ≤ a12) (hab : a12 < b) (ha3 : 0 ≤ a3) (ha3' : a3 < 2 ^ n) (hb : b = b1 * 2 ^ n + b2) (hb2 : 0 ≤ b2) (hb2' : b2 < 2 ^ n) (hb1 : 0 < b1) (hb1' : b1 < 2 ^ n) :
    TupC w 28 news [.int a12 ta, .int a3 ta3, .int b tb, .int b1 tb1, .int b2 tb2, .int n tn] ((a12 * 2 ^ n + a3) / b) ((a12 * 2 ^ n + a3) % b) 2 := by
  have hp := pow_pos2 n
  have hbp : 0 < b := by omega
  have e1 := fun h => d3_in1 (a12 := a12) (a3 := a3) (n := n) (b := b) h ha hab ha3 ha3' hb hb2 hb1
  have e2 := fun h => d3_in2 (a12 := a12) (a3 := a3) (n := n) (b := b) h ha hab ha3 ha3' hb hb2 hb2' hb1
  have ha12 : a12 < 2 ^ (2 * n) := by
    have h2 : b1 * 2 ^ n + b2 < 2 ^ (2 * n) := by
      have h3 : (b1 + 1) * 2 ^ n ≤ 2 ^ n * 2 ^ n := Int.mul_le_mul_of_nonneg_right (by omega) (Int.le_of_lt hp)
      rw [Int.add_mul, ← Int.pow_add, show n + n = 2 * n by omega] at h3
      omega
    omega
  have sb1 : Sz b1 := .of_nn (by omega) hb1' (by omega)
  have sb2 : Sz b2 := .of_nn hb2 hb2' (by omega)
  have sp : Sz (2 ^ n - 1) := .of_nn (k := n) (by omega) (by omega) (by omega)
  have sr1 : a12 / 2 ^ n = b1 → Sz (a12 - b1 * 2 ^ n + b1) := fun h => .of_nn (e1 h).1 (Int.lt_of_le_of_lt (e1 h).2.1 ha12) (by omega)
  have sr2 : Sz (a12 % b1) := .of_nn (Int.emod_nonneg _ (by omega)) (Int.lt_trans (Int.emod_lt_of_pos _ hb1) hb1') (by omega)
  have sq2 : ¬ a12 / 2 ^ n = b1 → Sz (a12 / b1) := fun h => .of_nn (e2 h).2.2.1 (e2 h).2.1 (by omega)
  have nr2 : 0 ≤ a12 % b1 := Int.emod_nonneg _ (by omega)
  have c1 : ¬ a12 / 2 ^ n = b1 → (Builtin.Int.intBits a12 : Int) - n ≤ 4000 := fun h => by
    have h1 : b1 * 2 ^ n < 2 ^ n * 2 ^ n := Int.mul_lt_mul_of_pos_right hb1' hp
    rw [← Int.pow_add] at h1
    have h2 := bits_le ha (Int.lt_trans (e2 h).1 h1)
    omega
  have c2 : b1.natAbs.log2 < 9000 := log2_lt hb1 hb1' (by omega)
  generalize hA : a12 * 2 ^ n + a3 = A at *
  unfold TupC
  intro p loose mean mg mb dp un gd cn cs fa ccd cl outer A₀ base h₀ L m s Q E B F X N T hk hd hu hret
  k_with_none
  k_with "M binaryOp RShift int int" => (with_reducible refine shr_n ?_)
  k_with "M binaryOp LShift int int" => (with_reducible first | refine shl_one (by omega) ?_ | refine shl_n (by first | assumption | exact sr1 (by assumption)) (by omega) ?_)
  k_with "M binaryOp BitOr int int" => (with_reducible refine or_sum (by first | assumption | exact (e1 (by assumption)).1) (by assumption) (by assumption) ?_)
  k_with "M binaryOp Mult int int" => (with_reducible refine mul_sz (by first | assumption | exact sq2 (by assumption)) (by assumption) ?_)
  k_with "M exec While Compare cons nil" => k_while (fun _ q r => q * b + r = A ∧ r < b) (fun _ _ r => (-r).toNat) "q" "r"
  k_with "state" => first | exact (e1 (by assumption)).2.2 | exact (e2 (by assumption)).2.2.2 | exact d3_turn ⟨by assumption, by assumption⟩ (by assumption)
  k_with "M call ref" => (walk_at "MINE a"; (case C => exact d2base _ _ _ _ _ _ _ _ hb1 (c1 (by assumption)) c2); walk_at "MINE b")
  refine wpAny_call ?_
  k_dflt ktr_enter
  k_steps
  all_goals try (have e := d3_out hbp ⟨by assumption, by assumption⟩ (by assumption); rw [e.1, e.2] at hret; exact hret _ _ _ _ _ _ (by assumption) (news_drop2 (by assumption)) (by first | assumption | exact (And.right (by assumption))))
end

section
open PySem PySem.Spec PySem.Calls PySem.W PyProof.Rows
set_option maxRecDepth 100000

theorem fill2 : ∀ (w : World), hd.heap_39 w.params = hd.heap_39 w.params ∧ PySem.Challenge.rw_tx0024_01.prog = PySem.Challenge.rw_tx0024_01.prog := by
  k_fill
  intro w; exact ⟨rfl, rfl⟩
local macro_rules | `(tactic| walk_at "MINE a") => `(tactic| (k_here; k_dflt (refine' TupC.use ?C ?B ?F ?X ?N ?T ?hk ?hd ?hu ?_; (case N => k_asm); (case F => k_asm))))
local macro_rules | `(tactic| walk_at "MINE b") => `(tactic| (k_dflt ((case B => k_asm); (case X => k_asm); (case T => k_asm); (case hk => first | exact rfl | assumption); (case hd => ktr_room); (case hu => ktr_units); k_whole); intro D' t1' t2' c' h' tk' F' N' l1; (try dsimp only); (try k_sweep); (try k_fold)))

local macro_rules | `(tactic| walk_at "binaryOp RShift int int") => `(tactic| k_extra "M binaryOp RShift int int")
local macro_rules | `(tactic| walk_at "binaryOp LShift int int") => `(tactic| k_extra "M binaryOp LShift int int")
local macro_rules | `(tactic| walk_at "binaryOp BitOr int int") => `(tactic| k_extra "M binaryOp BitOr int int")
local macro_rules | `(tactic| walk_at "binaryOp BitAnd int int") => `(tactic| k_extra "M binaryOp BitAnd int int")
local macro_rules | `(tactic| walk_at "inplaceOp LShift int int") => `(tactic| k_extra "M inplaceOp LShift int int")
local macro_rules | `(tactic| walk_at "inplaceOp RShift int int") => `(tactic| k_extra "M inplaceOp RShift int int")
local macro_rules | `(tactic| walk_at "inplaceOp Add int int") => `(tactic| k_extra "M inplaceOp Add int int")
local macro_rules | `(tactic| walk_at "call ref") => `(tactic| k_extra "M call ref")


theorem iadd_one {prog : Program} {w : World} {A : Around} {E : Value → Shared → Prop} {s : Shared} {n : Nat} {t u : Tok} {Q : Value → Shared → Prop}
    (h : Q (.int ((n + 1 : Nat) : Int) s.toks) { s with toks := s.toks + 1 }) : wpAny (model prog w) A (inplaceOp .Add (.int (n : Int) t) (.int 1 u)) Q E s :=
  iadd_int (by have e : ((n : Int) + 1) = ((n + 1 : Nat) : Int) := by omega
               rw [e]; exact h)
theorem and_one_at {prog : Program} {w : World} {A : Around} {E : Value → Shared → Prop} {s : Shared} {n d : Nat} {t u : Tok} {Q : Value → Shared → Prop} (hd : n % 2 = d)
    (h : Q (.int (d : Int) s.toks) { s with toks := s.toks + 1 }) : wpAny (model prog w) A (binaryOp .BitAnd (.int (n : Int) t) (.int 1 u)) Q E s :=
  and_one (by rw [hd]; exact h)

theorem d2_calls (w : World) {A B : Int} {h : Nat} (hA : 0 ≤ A) (hAB : A < B * 2 ^ (2 * h)) (h1 : 1 ≤ h) (hn : h ≤ 4000) (hB : 2 ^ (2 * h - 1) ≤ B) (hB' : B < 2 ^ (2 * h)) :
    (∀ news t1 t2 t3 t4 t5 t6, TupC w 28 news [.int (A / 2 ^ (2 * h)) t1, .int (A / 2 ^ h % 2 ^ h) t2, .int B t3, .int (B / 2 ^ h) t4, .int (B % 2 ^ h) t5, .int h t6] (A / 2 ^ h / B) (A / 2 ^ h % B) 2) ∧
    (∀ news t1 t2 t3 t4 t5 t6, TupC w 28 news [.int (A / 2 ^ h % B) t1, .int (A % 2 ^ h) t2, .int B t3, .int (B / 2 ^ h) t4, .int (B % 2 ^ h) t5, .int h t6] ((A / 2 ^ h % B * 2 ^ h + A % 2 ^ h) / B) (A % B) 2) := by
  have hBp : 0 < B := Int.lt_of_lt_of_le (pow_pos2 _) hB
  obtain ⟨m1, m2, m3, m4, m5, m6, m7, m8⟩ := d2_math hA hAB hBp
  obtain ⟨b1, b2, b3, b4, b5⟩ := d2_split h1 hB hB'
  have hp := pow_pos2 h
  constructor
  · intro news t1 t2 t3 t4 t5 t6
    have := d3 w news (A / 2 ^ (2 * h)) (A / 2 ^ h % 2 ^ h) B (B / 2 ^ h) (B % 2 ^ h) h t1 t2 t3 t4 t5 t6 hn m1 m2 (Int.emod_nonneg _ (Int.ne_of_gt hp)) (Int.emod_lt_of_pos _ hp) b1 b2 b3 b4 b5
    rw [m3] at this
    exact this
  · intro news t1 t2 t3 t4 t5 t6
    have := d3 w news (A / 2 ^ h % B) (A % 2 ^ h) B (B / 2 ^ h) (B % 2 ^ h) h t1 t2 t3 t4 t5 t6 hn (Int.emod_nonneg _ (Int.ne_of_gt hBp)) (Int.emod_lt_of_pos _ hBp) (Int.emod_nonneg _ (Int.ne_of_gt hp)) (Int.emod_lt_of_pos _ hp) b1 b2 b3 b4 b5
    rw [m6] at this
    exact this

set_option maxHeartbeats 4000000 in
theorem d2even (w : World) (news : List (Addr × Obj)) (a b : Int) (h : Nat) (ta tb tn : Tok) (hA : 0 ≤ a) (hAB : a < b * 2 ^ (2 * h)) (hn : h ≤ 4000) (hB : 2 ^ (2 * h - 1) ≤ b) (hB' : b < 2 ^ (2 * h)) :
    TupC w 21 news [.int a ta, .int b tb, .int ((2 * h : Nat) : Int) tn] (a / b) (a % b) 3 := by
  by_cases hbase : (Builtin.Int.intBits a : Int) - ((2 * h : Nat) : Int) ≤ 4000
  · have hbp : 0 < b := Int.lt_of_lt_of_le (pow_pos2 _) hB
    intro p loose mean mg mb dp un gd cn cs fa ccd cl outer A₀ base h₀ L m s Q E B F X N T hk hd hu hret
    exact d2base w news a b _ ta tb tn hbp hbase (log2_lt hbp hB' (by omega)) p loose mean mg mb dp un gd cn cs fa ccd cl outer A₀ base h₀ L m s Q E B F X N T hk (by omega) (by omega) hret
  have h1 : 1 ≤ h := by
    refine Nat.pos_of_ne_zero fun h0 => hbase ?_
    subst h0
    have : a < 2 ^ 1 := by simp at hAB hB'; omega
    have := bits_le hA this
    omega
  obtain ⟨c1, c2⟩ := d2_calls w hA hAB h1 hn hB hB'
  have hBp : 0 < b := Int.lt_of_lt_of_le (pow_pos2 _) hB
  obtain ⟨m1, m2, m3, m4, m5, m6, m7, m8⟩ := d2_math hA hAB hBp
  have hh : 2 * h / 2 = h := by omega
  have hpar : 2 * h % 2 = 0 := by omega
  have q1s : Sz (a / 2 ^ h / b) := by
    refine .of_nn (k := 2 * h) m4 (Int.ediv_lt_of_lt_mul hBp (Int.lt_of_le_of_lt (Int.ediv_le_self _ hA) (by rw [Int.mul_comm]; exact hAB))) (by omega)
  have nb : 0 ≤ b := Int.le_of_lt hBp
  have na : 0 ≤ a / 2 ^ h := Int.ediv_nonneg hA (Int.le_of_lt (pow_pos2 h))
  unfold TupC
  intro p loose mean mg mb dp un gd cn cs fa ccd cl outer A₀ base h₀ L m s Q E B F X N T hk hd hu hret
  rw [← m5] at hret
  k_with_none
  k_with "M binaryOp RShift int int" => (with_reducible first | refine shr_1 ?_; rw [hh] | refine shr_n ?_)
  k_with "M binaryOp LShift int int" => (with_reducible first | refine shl_one (by omega) ?_ | refine shl_n (by assumption) (by omega) ?_)
  k_with "M binaryOp BitOr int int" => (with_reducible refine or_sum (by assumption) (by assumption) (by assumption) ?_)
  k_with "M binaryOp BitAnd int int" => (with_reducible first | refine and_one_at hpar ?_ | refine and_mask (by assumption) ?_)
  k_with "M call ref" => (walk_at "MINE a"; (case C => first | exact c1 _ _ _ _ _ _ _ | exact c2 _ _ _ _ _ _ _); walk_at "MINE b")
  refine wpAny_call ?_
  k_dflt ktr_enter
  k_steps

  all_goals exact hret _ _ _ _ _ _ (by assumption) (News.subs (by assumption) (.head _) (by repeat (first | exact sub_refl | refine sub_cons ?_))) (by first | assumption | exact And.right (by assumption) | exact And.right (And.right (by assumption)) | exact And.right (And.right (And.right (by assumption))))

set_option maxHeartbeats 4000000 in
theorem d2odd (w : World) (news : List (Addr × Obj)) (a b : Int) (h : Nat) (ta tb tn : Tok) (hA : 0 ≤ a) (hAB : a < b * 2 ^ (2 * h - 1)) (h1 : 1 ≤ h) (hn : h ≤ 4000) (hB : 2 ^ (2 * h - 2) ≤ b) (hB' : b < 2 ^ (2 * h - 1)) :
    TupC w 21 news [.int a ta, .int b tb, .int ((2 * h - 1 : Nat) : Int) tn] (a / b) (a % b) 3 := by
  have hBp : 0 < b := Int.lt_of_lt_of_le (pow_pos2 _) hB
  by_cases hbase : (Builtin.Int.intBits a : Int) - ((2 * h - 1 : Nat) : Int) ≤ 4000
  · intro p loose mean mg mb dp un gd cn cs fa ccd cl outer A₀ base h₀ L m s Q E B F X N T hk hd hu hret
    exact d2base w news a b _ ta tb tn hBp hbase (log2_lt hBp hB' (by omega)) p loose mean mg mb dp un gd cn cs fa ccd cl outer A₀ base h₀ L m s Q E B F X N T hk (by omega) (by omega) hret
  have ep : (2 : Int) ^ (2 * h) = 2 ^ (2 * h - 1) * 2 := by rw [← Int.pow_succ]; congr 1; omega
  have ep1 : (2 : Int) ^ (2 * h - 1) = 2 ^ (2 * h - 2) * 2 := by rw [← Int.pow_succ]; congr 1; omega
  have a2 : 0 ≤ a * 2 := by omega
  have b2 : 0 < b * 2 := by omega
  have hAB2 : a * 2 < b * 2 * 2 ^ (2 * h) := by
    rw [ep]
    have e : b * 2 * (2 ^ (2 * h - 1) * 2) = b * 2 ^ (2 * h - 1) * 4 := by grind
    rw [e]
    have := Int.mul_nonneg (Int.le_of_lt hBp) (Int.le_of_lt (pow_pos2 (2 * h - 1)))
    omega
  have hB2 : 2 ^ (2 * h - 1) ≤ b * 2 := by omega
  have hB2' : b * 2 < 2 ^ (2 * h) := by omega
  obtain ⟨c1, c2⟩ := d2_calls w a2 hAB2 h1 hn hB2 hB2'
  obtain ⟨m1, m2, m3, m4, m5, m6, m7, m8⟩ := d2_math a2 hAB2 b2
  have hh : (2 * h - 1 + 1) = 2 * h := by omega
  have hh2 : 2 * h / 2 = h := by omega
  have hpar : (2 * h - 1) % 2 = 1 := by omega
  have q1s : Sz (a * 2 / 2 ^ h / (b * 2)) := .of_nn (k := 2 * h) m4 (Int.ediv_lt_of_lt_mul b2 (Int.lt_of_le_of_lt (Int.ediv_le_self _ a2) (by rw [Int.mul_comm (2 ^ (2 * h))]; exact hAB2))) (by omega)
  have nb : 0 ≤ b * 2 := Int.le_of_lt b2
  have na : 0 ≤ a * 2 / 2 ^ h := Int.ediv_nonneg a2 (Int.le_of_lt (pow_pos2 h))
  have sb : Sz b := .of_nn (k := 2 * h) (by omega) (by omega) (by omega)
  have sa : Sz a := by
    refine .of_nn (k := 2 * h + 2 * h) hA ?_ (by omega)
    rw [Int.pow_add]
    have := Int.mul_lt_mul_of_pos_right hB2' (pow_pos2 (2 * h))
    omega
  have eq : a * 2 / (b * 2) = a / b := Int.mul_ediv_mul_of_pos_left a b (by decide)
  have er : a * 2 % (b * 2) / 2 = a % b := by
    rw [Int.mul_comm a, Int.mul_comm b, Int.mul_emod_mul_of_pos _ _ (by decide)]
    omega
  unfold TupC
  intro p loose mean mg mb dp un gd cn cs fa ccd cl outer A₀ base h₀ L m s Q E B F X N T hk hd hu hret
  rw [← eq, ← er, ← m5] at hret
  k_with_none
  k_with "M binaryOp RShift int int" => (with_reducible first | refine shr_1 ?_; rw [hh2] | refine shr_n ?_)
  k_with "M inplaceOp RShift int int" => (with_reducible refine ishr_1 ?_)
  k_with "M inplaceOp LShift int int" => (with_reducible refine ishl_1 (by assumption) ?_)
  k_with "M inplaceOp Add int int" => (with_reducible refine iadd_one ?_; rw [hh])
  k_with "M binaryOp LShift int int" => (with_reducible first | refine shl_one (by omega) ?_ | refine shl_n (by assumption) (by omega) ?_)
  k_with "M binaryOp BitOr int int" => (with_reducible refine or_sum (by assumption) (by assumption) (by assumption) ?_)
  k_with "M binaryOp BitAnd int int" => (with_reducible first | refine and_one_at hpar ?_ | refine and_mask (by assumption) ?_)
  k_with "M call ref" => (walk_at "MINE a"; (case C => first | exact c1 _ _ _ _ _ _ _ | exact c2 _ _ _ _ _ _ _); walk_at "MINE b")
  refine wpAny_call ?_
  k_dflt ktr_enter
  k_steps
  all_goals exact hret _ _ _ _ _ _ (by assumption) (News.subs (by assumption) (.head _) (by repeat (first | exact sub_refl | refine sub_cons ?_))) (by first | assumption | exact And.right (by assumption) | exact And.right (And.right (by assumption)) | exact And.right (And.right (And.right (by assumption))))

/-- b has n bits, a < 2^n * b -/
theorem d2 (w : World) (news : List (Addr × Obj)) (a b : Int) (n : Nat) (ta tb tn : Tok) (hA : 0 ≤ a) (hAB : a < b * 2 ^ n) (h1 : 1 ≤ n) (hn : n ≤ 7000) (hB : 2 ^ (n - 1) ≤ b) (hB' : b < 2 ^ n) :
    TupC w 21 news [.int a ta, .int b tb, .int (n : Int) tn] (a / b) (a % b) 3 := by
  rcases Nat.mod_two_eq_zero_or_one n with hp | hp
  · have e : n = 2 * (n / 2) := by omega
    generalize n / 2 = k at e
    subst e
    exact d2even w news a b k ta tb tn hA hAB (by omega) hB hB'
  · have e : n = 2 * ((n + 1) / 2) - 1 := by omega
    generalize (n + 1) / 2 = k at e
    subst e
    exact d2odd w news a b k ta tb tn hA hAB (by omega) (by omega) (by rw [show 2 * k - 1 - 1 = 2 * k - 2 by omega] at hB; exact hB) hB'
end

section
open PySem PySem.Spec PySem.Calls PySem.W PyProof.Rows
set_option maxRecDepth 100000
local macro_rules | `(tactic| k_mem) => `(tactic| assumption)

section
open PySem PySem.Spec PySem.Calls PySem.W PyProof.Rows
set_option maxRecDepth 100000

theorem fill3 : ∀ (w : World), hd.heap_39 w.params = hd.heap_39 w.params ∧ PySem.Challenge.rw_tx0024_01.prog = PySem.Challenge.rw_tx0024_01.prog := by
  k_fill
  intro w; exact ⟨rfl, rfl⟩
def stAt (i : Nat) : Stmt := PySem.Challenge.pw_tx0024_01.main.body.getD i default
def bdAt (i : Nat) : List Stmt := match stAt i with | .FunctionDef _ _ b _ _ _ _ _ _ _ => b | _ => []
def inAt (i j : Nat) : Stmt := (bdAt i).getD j default


local macro_rules | `(tactic| walk_at "binaryOp RShift int int") => `(tactic| k_extra "M binaryOp RShift int int")
local macro_rules | `(tactic| walk_at "binaryOp LShift int int") => `(tactic| k_extra "M binaryOp LShift int int")
local macro_rules | `(tactic| walk_at "binaryOp BitXor int int") => `(tactic| k_extra "M binaryOp BitXor int int")
local macro_rules | `(tactic| walk_at "binaryOp Mult int int") => `(tactic| k_extra "M binaryOp Mult int int")
local macro_rules | `(tactic| walk_at "binaryOp Add int int") => `(tactic| k_extra "M binaryOp Add int int")
local macro_rules | `(tactic| walk_at "call ref") => `(tactic| k_extra "M call ref")


local macro_rules | `(tactic| k_all) => `(tactic| with_reducible assumption)

/-- a call that lays digits into the list D -/
def DigC (w : World) (f D : Addr) (news : List (Addr × Obj)) (args : List Value) (ns ns' : List Int) (k : Nat) : Prop :=
  ∀ (p : Program) (loose : List Str) (mean : ExcName → Option Value) (mg mb : Str → Option Value) (dp un : Nat) (gd : Option (List Code)) (cn : Str) (cs : Scope) (a : Addr) (ccd : Value) (cl : List (Str × Addr)) (outer : List Env) (A₀ : Around) (base h₀ : Heap) (L : Addr) (m : Str → Option Value) (s : Shared) (Q E : Value → Shared → Prop) (vs : List Value),
    IntsAre vs ns → Below A₀ base outer h₀ → Fr h₀ L s.heap m → (hd.heap_39 w.params).In h₀ → News h₀ L s.heap ((D, listOf vs.toArray 0) :: news) → Top p loose mean mg mb h₀ → cs.kind = .function →
    dp + k < recursionLimit → un + 8 * k < cLine →
    (∀ vs' h' tk, IntsAre vs' ns' → Fr h₀ L h' m → News h₀ L h' ((D, listOf vs'.toArray 0) :: news) → Q .none { s with heap := h', toks := tk }) →
    wpAny (model PR w) (ktrTop dp un gd cn cs L a ccd cl outer) (call (.ref f) args) Q E s
theorem DigC.use {w : World} {f D : Addr} {news : List (Addr × Obj)} {args : List Value} {ns ns' : List Int} {k : Nat} (C : DigC w f D news args ns ns' k)
    {p : Program} {loose : List Str} {mean : ExcName → Option Value} {mg mb : Str → Option Value} {dp un : Nat} {gd : Option (List Code)} {cn : Str} {cs : Scope} {a : Addr} {ccd : Value} {cl : List (Str × Addr)} {outer : List Env} {A₀ : Around} {base h₀ : Heap} {L : Addr} {m : Str → Option Value} {s : Shared} {Q E : Value → Shared → Prop} {vs : List Value}
    (hi : IntsAre vs ns) (B : Below A₀ base outer h₀) (F : Fr h₀ L s.heap m) (X : (hd.heap_39 w.params).In h₀) (N : News h₀ L s.heap ((D, listOf vs.toArray 0) :: news)) (T : Top p loose mean mg mb h₀) (hk : cs.kind = .function)
    (hd : dp + k < recursionLimit) (hu : un + 8 * k < cLine)
    (h : ∀ vs' h' tk, IntsAre vs' ns' → Fr h₀ L h' m → News h₀ L h' ((D, listOf vs'.toArray 0) :: news) → Q .none { s with heap := h', toks := tk }) :
    wpAny (model PR w) (ktrTop dp un gd cn cs L a ccd cl outer) (call (.ref f) args) Q E s := C p loose mean mg mb dp un gd cn cs a ccd cl outer A₀ base h₀ L m s Q E vs hi B F X N T hk hd hu h

local macro_rules | `(tactic| walk_at "MINE d") => `(tactic| (k_here; k_dflt (refine' DigC.use ?C ?hi ?B ?F ?X ?N ?T ?hk ?hd ?hu ?_; (case N => k_asm); (case F => k_asm))))
local macro_rules | `(tactic| walk_at "MINE e") => `(tactic| (k_dflt ((case hi => k_asm); (case B => k_asm); (case X => k_asm); (case T => k_asm); (case hk => first | exact rfl | assumption); (case hd => ktr_room); (case hu => ktr_units); k_whole); intro vs' h' tk' hi' F' N'; (try dsimp only); (try k_sweep); (try k_fold)))

theorem mul_at {prog : Program} {w : World} {A : Around} {E : Value → Shared → Prop} {s : Shared} {a b c : Int} {t u : Tok} {Q : Value → Shared → Prop} (e : a * b = c) (ha : Sz a) (hb : Sz b) (h : Q (.int c s.toks) { s with toks := s.toks + 1 }) :
    wpAny (model prog w) A (binaryOp .Mult (.int a t) (.int b u)) Q E s := mul_sz ha hb (by rw [e]; exact h)

local macro_rules | `(tactic| walk_at "MINE n") => `(tactic| (refine' code_nest ?k1 ?k2 ?k3 ?k4 ?k5 ?kA ?kF ?kK ?k6 ?k7 ?k8 ?k9 ?kB ?_ ?c2 ?c3 ?c4 ?c5; (case kA => exact rfl); (case kF => exact rfl); (case kK => first | exact rfl | assumption); (case k1 => k_asm); (case k2 => k_asm); (case k3 => k_asm); (case k4 => k_asm); (case k5 => k_asm); (case k6 => first | k_mem | exact List.Mem.tail _ (by assumption)); (case k7 => exact codeRec_news (by k_asm) (by first | k_mem | exact List.Mem.tail _ (by assumption)) (by assumption) (by assumption)); (case k8 => ktr_room); (case k9 => exact BindsTo.of_eq rfl); (case c5 => decide); (case kB => exact locs rfl); (case c2 => exact rfl); (case c3 => exact rfl); (case c4 => exact rfl); k_whole; intro g' L' h' FG' F' N' B' X' T'; (try dsimp only); (try k_fold)))

local macro_rules | `(tactic| walk_at "compareOp Eq int int") => `(tactic| k_extra "M compareOp Eq int int")
theorem eq_yes {prog : Program} {w : World} {A : Around} {E : Value → Shared → Prop} {s : Shared} {a b : Int} {t u : Tok} {Q : Value → Shared → Prop} (e : a = b) (h : Q (.bool true) s) :
    wpAny (model prog w) A (compareOp .Eq (.int a t) (.int b u)) Q E s := eq_int (by rw [beq_iff_eq.mpr e]; exact h)
theorem eq_no {prog : Program} {w : World} {A : Around} {E : Value → Shared → Prop} {s : Shared} {a b : Int} {t u : Tok} {Q : Value → Shared → Prop} (e : ¬ a = b) (h : Q (.bool false) s) :
    wpAny (model prog w) A (compareOp .Eq (.int a t) (.int b u)) Q E s := eq_int (by rw [beq_eq_false_iff_ne.mpr e]; exact h)
local macro_rules | `(tactic| walk_at "eval Name") => `(tactic| (k_here; k_dflt (refine' nameX_F ?N ?c ?m ?d ?_ ?a ?b; (case a => rfl); (case b => rfl); (case N => k_asm); (case c => rfl); (case m => k_mem); (case d => k_asm); k_whole)))

local macro_rules | `(tactic| walk_at "callWith ref") => `(tactic| (k_here; k_dflt (refine' callWith_F ?k1 ?_; (case k1 => exact FnAt.of (by k_asm) (by k_mem)); k_whole)))

set_option maxHeartbeats 1000000 in
theorem inner1 (w : World) (n : Nat) (hn : n ≤ 7000) (tn : Tok) (D ca ci cn f c' : Addr) (oa oi on oc : Obj) (vsq : Array Value) (tq : Tok) (doc pm ctv : Value) (news : List (Addr × Obj)) (qn : Str) (nm pr bd sc dec ret tp tsc bind pos)
    (he : Stmt.FunctionDef nm pr bd dec ret tp sc tsc bind pos = inAt 4 1)
    (hf : (f, fnMade nm qn pr bd sc [("n", cn), ("inner", ci), ("a_digits", ca)] doc pm c' ctv) ∈ news)
    (hc' : (c', oc) ∈ news) (hoc : oc.data = .fields vsq) (hvq : vsq[1]? = some (.str qn tq))
    (ha : (ca, oa) ∈ news) (hoa : oa.data = .cell (some (.ref D))) (hi : (ci, oi) ∈ news) (hoi : oi.data = .cell (some (.ref f))) (hcn : (cn, on) ∈ news) (hon : on.data = .cell (some (.int n tn)))
    (hD : ∀ p ∈ news, p.1 ≠ D) :
    ∀ (k lo : Nat) (x : Int) (ns : List Int) (tx tL tR : Tok), 1 ≤ k → lo + k ≤ ns.length → ns.length ≤ 100 → 0 ≤ x → x < 2 ^ (k * n) →
      DigC w f D news [.int x tx, .int lo tL, .int ((lo + k : Nat) : Int) tR] ns (lay n ns lo k x) k := by
  injection he with e1 e2 e3 e4 e5 e6 e7 e8 e9 e10
  clear e4 e5 e6 e8 e9 e10
  subst e1 e2 e3 e7
  intro k
  induction k using Nat.strongRecOn with
  | _ k IH =>
  intro lo x ns tx tL tR h1 hlo hns hx hx'
  unfold DigC
  intro p loose mean mg mb dp un gd cn0 cs fa ccd cl outer A₀ base h₀ L m s Q E vs hI B F X N T hk hd hu hret
  have hlen := hI.length
  by_cases hk1 : k = 1
  · subst hk1
    have hlay : ns.set ((lo : Nat) : Int).toNat x = lay n ns lo 1 x := by rw [Int.toNat_natCast]; exact lay_one hlo hx (by simpa using hx')
    k_with_none
    k_with "M compareOp Eq int int" => (with_reducible refine eq_yes (by omega) ?_)
    refine wpAny_call ?_
    k_dflt walk_at "MINE n"
    k_steps
    exact hret _ _ _ (by rw [← hlay]; assumption) (by assumption) (by assumption)
  · obtain ⟨j, k', hj1, hk1', hjk⟩ : ∃ j k', 1 ≤ j ∧ 1 ≤ k' ∧ k = j + k' ∧ (j + k') / 2 = j := ⟨k / 2, k - k / 2, by omega, by omega, by omega, by omega⟩
    obtain ⟨rfl, hhalf⟩ := hjk
    have hp := pow_pos2 (j * n)
    have hmul : (j + k') * n = j * n + k' * n := Nat.add_mul _ _ _
    have hjn : j * n ≤ 700000 := Nat.le_trans (Nat.mul_le_mul (show j ≤ 100 by omega) hn) (by decide)
    have hkn : (j + k') * n ≤ 700000 := Nat.le_trans (Nat.mul_le_mul (show j + k' ≤ 100 by omega) hn) (by decide)
    have hmid : (lo + (lo + (j + k'))) / 2 = lo + j := by omega
    have hsh : (((lo + j : Nat) : Int) - (lo : Int)) * (n : Int) = ((j * n : Nat) : Int) := by
      rw [show ((lo + j : Nat) : Int) - (lo : Int) = (j : Int) by omega]; push_cast; rfl
    have szj : Sz (((lo + j : Nat) : Int) - (lo : Int)) := .of_nn (k := 20) (by omega) (by omega) (by omega)
    have szn : Sz (n : Int) := .of_nn (k := 20) (by omega) (by omega) (by omega)
    have u0 : 0 ≤ x / 2 ^ (j * n) := Int.ediv_nonneg hx (Int.le_of_lt hp)
    have u1 : x / 2 ^ (j * n) < 2 ^ (k' * n) := Int.ediv_lt_of_lt_mul hp (by rw [← Int.pow_add, Nat.add_comm, ← hmul]; exact hx')
    have szu : Sz (x / 2 ^ (j * n)) := .of_nn u0 u1 (by omega)
    have C1 : ∀ tx tL tR, DigC w f D news [.int (x % 2 ^ (j * n)) tx, .int lo tL, .int ((lo + j : Nat) : Int) tR] ns (lay n ns lo j (x % 2 ^ (j * n))) j :=
      fun tx tL tR => IH j (by omega) lo _ ns tx tL tR hj1 (by omega) hns (Int.emod_nonneg _ (Int.ne_of_gt hp)) (Int.emod_lt_of_pos _ hp)
    have C2 : ∀ tx tL tR, DigC w f D news [.int (x / 2 ^ (j * n)) tx, .int ((lo + j : Nat) : Int) tL, .int ((lo + (j + k') : Nat) : Int) tR] (lay n ns lo j (x % 2 ^ (j * n))) (lay n ns lo (j + k') x) k' := by
      intro tx tL tR
      have := IH k' (by omega) (lo + j) (x / 2 ^ (j * n)) (lay n ns lo j (x % 2 ^ (j * n))) tx tL tR hk1' (by rw [lay_length (by omega)]; omega) (by rw [lay_length (by omega)]; exact hns) u0 u1
      rw [lay_two hlo, Nat.add_assoc] at this
      exact this
    k_with_none
    k_with "M compareOp Eq int int" => (with_reducible refine eq_no (by omega) ?_)
    k_with "M binaryOp Add int int" => (with_reducible refine add_n ?_)
    k_with "M binaryOp RShift int int" => (with_reducible first | refine shr_1 ?_; rw [hmid] | refine shr_n ?_)
    k_with "M binaryOp Mult int int" => (with_reducible refine mul_at hsh szj szn ?_)
    k_with "M binaryOp LShift int int" => (with_reducible refine shl_n szu (by omega) ?_)
    k_with "M binaryOp BitXor int int" => (with_reducible refine xor_low hx ?_)
    k_with "M call ref" => (walk_at "MINE d"; (case C => first | exact C1 _ _ _ | exact C2 _ _ _); walk_at "MINE e")
    refine wpAny_call ?_
    k_dflt walk_at "MINE n"
    k_steps
    exact hret _ _ _ (by assumption) (by assumption) (by assumption)

theorem lay_all {n K : Nat} {ns : List Int} {a : Int} (h : ns.length = K) : lay n ns 0 K a = digs n K a := by
  rw [lay, List.take_zero, List.nil_append, Nat.zero_add, List.drop_of_length_le (by omega), List.append_nil]
theorem inner1_all (w : World) (n : Nat) (hn : n ≤ 7000) (tn : Tok) (D ca ci cn f c' : Addr) (oa oi on oc : Obj) (vsq : Array Value) (tq : Tok) (doc pm ctv : Value) (news : List (Addr × Obj)) (qn : Str) (nm pr bd sc dec ret tp tsc bind pos)
    (he : Stmt.FunctionDef nm pr bd dec ret tp sc tsc bind pos = inAt 4 1)
    (hf : (f, fnMade nm qn pr bd sc [("n", cn), ("inner", ci), ("a_digits", ca)] doc pm c' ctv) ∈ news)
    (hc' : (c', oc) ∈ news) (hoc : oc.data = .fields vsq) (hvq : vsq[1]? = some (.str qn tq))
    (ha : (ca, oa) ∈ news) (hoa : oa.data = .cell (some (.ref D))) (hi : (ci, oi) ∈ news) (hoi : oi.data = .cell (some (.ref f))) (hcn : (cn, on) ∈ news) (hon : on.data = .cell (some (.int n tn)))
    (hD : ∀ p ∈ news, p.1 ≠ D) (k : Nat) (x : Int) (tx tL tR : Tok) (h1 : 1 ≤ k) (hk : k ≤ 100) (h0 : 0 ≤ x) (hx : x < 2 ^ (k * n)) :
      DigC w f D news [.int x tx, .int 0 tL, .int (k : Int) tR] (List.replicate k 0) (digs n k x) k := by
  have := inner1 w n hn tn D ca ci cn f c' oa oi on oc vsq tq doc pm ctv news qn nm pr bd sc dec ret tp tsc bind pos he hf hc' hoc hvq ha hoa hi hoi hcn hon hD k 0 x (List.replicate k 0) tx tL tR h1 (by simp) (by simp; omega) h0 hx
  rw [lay_all (by simp), Nat.zero_add] at this
  exact this

/-- a call that hands back an int -/
def ValC (w : World) (f : Addr) (news : List (Addr × Obj)) (args : List Value) (v : Int) (k : Nat) : Prop :=
  ∀ (p : Program) (loose : List Str) (mean : ExcName → Option Value) (mg mb : Str → Option Value) (dp un : Nat) (gd : Option (List Code)) (cn : Str) (cs : Scope) (a : Addr) (ccd : Value) (cl : List (Str × Addr)) (outer : List Env) (A₀ : Around) (base h₀ : Heap) (L : Addr) (m : Str → Option Value) (s : Shared) (Q E : Value → Shared → Prop),
    Below A₀ base outer h₀ → Fr h₀ L s.heap m → (hd.heap_39 w.params).In h₀ → News h₀ L s.heap news → Top p loose mean mg mb h₀ → cs.kind = .function →
    dp + k < recursionLimit → un + 8 * k < cLine →
    (∀ t h' tk, Fr h₀ L h' m → News h₀ L h' news → Q (.int v t) { s with heap := h', toks := tk }) →
    wpAny (model PR w) (ktrTop dp un gd cn cs L a ccd cl outer) (call (.ref f) args) Q E s
theorem ValC.use {w : World} {f : Addr} {news : List (Addr × Obj)} {args : List Value} {v : Int} {k : Nat} (C : ValC w f news args v k)
    {p : Program} {loose : List Str} {mean : ExcName → Option Value} {mg mb : Str → Option Value} {dp un : Nat} {gd : Option (List Code)} {cn : Str} {cs : Scope} {a : Addr} {ccd : Value} {cl : List (Str × Addr)} {outer : List Env} {A₀ : Around} {base h₀ : Heap} {L : Addr} {m : Str → Option Value} {s : Shared} {Q E : Value → Shared → Prop}
    (B : Below A₀ base outer h₀) (F : Fr h₀ L s.heap m) (X : (hd.heap_39 w.params).In h₀) (N : News h₀ L s.heap news) (T : Top p loose mean mg mb h₀) (hk : cs.kind = .function)
    (hd : dp + k < recursionLimit) (hu : un + 8 * k < cLine)
    (h : ∀ t h' tk, Fr h₀ L h' m → News h₀ L h' news → Q (.int v t) { s with heap := h', toks := tk }) :
    wpAny (model PR w) (ktrTop dp un gd cn cs L a ccd cl outer) (call (.ref f) args) Q E s := C p loose mean mg mb dp un gd cn cs a ccd cl outer A₀ base h₀ L m s Q E B F X N T hk hd hu h

local macro_rules | `(tactic| walk_at "MINE g") => `(tactic| (k_here; k_dflt (refine' ValC.use ?C ?B ?F ?X ?N ?T ?hk ?hd ?hu ?_; (case N => k_asm); (case F => k_asm))))
local macro_rules | `(tactic| walk_at "MINE h") => `(tactic| (k_dflt ((case B => k_asm); (case X => k_asm); (case T => k_asm); (case hk => first | exact rfl | assumption); (case hd => ktr_room); (case hu => ktr_units); k_whole); intro t' h' tk' F' N'; (try dsimp only); (try k_sweep); (try k_fold)))

def seg (ns : List Int) (lo k : Nat) : List Int := (ns.drop lo).take k
theorem seg_length {ns : List Int} {lo k : Nat} (h : lo + k ≤ ns.length) : (seg ns lo k).length = k := by
  simp only [seg, List.length_take, List.length_drop]; omega
theorem seg_add (ns : List Int) (lo j k : Nat) : seg ns lo (j + k) = seg ns lo j ++ seg ns (lo + j) k := by
  simp only [seg]
  rw [List.take_add, List.drop_drop]
theorem seg_mem {ns : List Int} {lo k : Nat} {d : Int} (h : d ∈ seg ns lo k) : d ∈ ns := List.mem_of_mem_drop (List.mem_of_mem_take h)
theorem seg_one {ns : List Int} {lo : Nat} (n : Nat) (h : lo + 1 ≤ ns.length) : val n (seg ns lo 1) = ns.getD lo 0 := by
  have e : seg ns lo 1 = [ns.getD lo 0] := by
    rw [seg, List.drop_eq_getElem_cons (by omega : lo < ns.length), List.take_succ_cons, List.take_zero, List.getD_eq_getElem?_getD, List.getElem?_eq_getElem (by omega : lo < ns.length)]
    rfl
  rw [e, val, val]; omega

set_option maxHeartbeats 1000000 in
theorem inner2 (w : World) (n : Nat) (hn : n ≤ 7000) (tn : Tok) (D cdg ci cn f c' : Addr) (oa oi on oc : Obj) (vsq : Array Value) (tq : Tok) (doc pm ctv : Value) (news : List (Addr × Obj)) (qn : Str) (nm pr bd sc dec ret tp tsc bind pos)
    (vs : List Value) (ns : List Int) (cnt : Nat) (hI : IntsAre vs ns) (hns : ns.length ≤ 100) (hr : ∀ d ∈ ns, 0 ≤ d ∧ d < 2 ^ n)
    (he : Stmt.FunctionDef nm pr bd dec ret tp sc tsc bind pos = inAt 5 0)
    (hf : (f, fnMade nm qn pr bd sc [("n", cn), ("inner", ci), ("digits", cdg)] doc pm c' ctv) ∈ news)
    (hc' : (c', oc) ∈ news) (hoc : oc.data = .fields vsq) (hvq : vsq[1]? = some (.str qn tq))
    (ha : (cdg, oa) ∈ news) (hoa : oa.data = .cell (some (.ref D))) (hi : (ci, oi) ∈ news) (hoi : oi.data = .cell (some (.ref f))) (hcn : (cn, on) ∈ news) (hon : on.data = .cell (some (.int n tn)))
    (hD : (D, listOf vs.toArray cnt) ∈ news) :
    ∀ (k lo : Nat) (tL tR : Tok), 1 ≤ k → lo + k ≤ ns.length →
      ValC w f news [.int lo tL, .int ((lo + k : Nat) : Int) tR] (val n (seg ns lo k)) k := by
  injection he with e1 e2 e3 e4 e5 e6 e7 e8 e9 e10
  clear e4 e5 e6 e8 e9 e10
  subst e1 e2 e3 e7
  intro k
  induction k using Nat.strongRecOn with
  | _ k IH =>
  intro lo tL tR h1 hlo
  unfold ValC
  intro p loose mean mg mb dp un gd cn0 cs fa ccd cl outer A₀ base h₀ L m s Q E B F X N T hk hd hu hret
  have hlen := hI.length
  by_cases hk1 : k = 1
  · subst hk1
    rw [seg_one n hlo] at hret
    k_with_none
    k_with "M compareOp Eq int int" => (with_reducible refine eq_yes (by omega) ?_)
    refine wpAny_call ?_
    k_dflt walk_at "MINE n"
    k_steps
    exact hret _ _ _ (by assumption) (by assumption)
  · obtain ⟨j, k', hj1, hk1', hjk⟩ : ∃ j k', 1 ≤ j ∧ 1 ≤ k' ∧ k = j + k' ∧ (j + k') / 2 = j := ⟨k / 2, k - k / 2, by omega, by omega, by omega, by omega⟩
    obtain ⟨rfl, hhalf⟩ := hjk
    have hjn : j * n ≤ 700000 := Nat.le_trans (Nat.mul_le_mul (show j ≤ 100 by omega) hn) (by decide)
    have hkn : k' * n ≤ 700000 := Nat.le_trans (Nat.mul_le_mul (show k' ≤ 100 by omega) hn) (by decide)
    have hmid : (lo + (lo + (j + k'))) / 2 = lo + j := by omega
    have hsh : (((lo + j : Nat) : Int) - (lo : Int)) * (n : Int) = ((j * n : Nat) : Int) := by
      rw [show ((lo + j : Nat) : Int) - (lo : Int) = (j : Int) by omega]; push_cast; rfl
    have szj : Sz (((lo + j : Nat) : Int) - (lo : Int)) := .of_nn (k := 20) (by omega) (by omega) (by omega)
    have szn : Sz (n : Int) := .of_nn (k := 20) (by omega) (by omega) (by omega)
    have vr := val_range n (seg ns (lo + j) k') fun d hd => hr d (seg_mem hd)
    rw [seg_length (by omega)] at vr
    have szu : Sz (val n (seg ns (lo + j) k')) := .of_nn vr.1 vr.2 (by omega)
    have C1 : ∀ tL tR, ValC w f news [.int lo tL, .int ((lo + j : Nat) : Int) tR] (val n (seg ns lo j)) j := fun tL tR => IH j (by omega) lo tL tR hj1 (by omega)
    have C2 : ∀ tL tR, ValC w f news [.int ((lo + j : Nat) : Int) tL, .int ((lo + (j + k') : Nat) : Int) tR] (val n (seg ns (lo + j) k')) k' := by
      intro tL tR
      have := IH k' (by omega) (lo + j) tL tR hk1' (by omega)
      rw [Nat.add_assoc] at this
      exact this
    have hv : val n (seg ns (lo + j) k') * 2 ^ (j * n) + val n (seg ns lo j) = val n (seg ns lo (j + k')) := by
      rw [seg_add, val_append, seg_length (by omega), Int.mul_comm]; omega
    rw [← hv] at hret
    k_with_none
    k_with "M compareOp Eq int int" => (with_reducible refine eq_no (by omega) ?_)
    k_with "M binaryOp Add int int" => (with_reducible refine add_n ?_)
    k_with "M binaryOp RShift int int" => (with_reducible refine shr_1 ?_; rw [hmid])
    k_with "M binaryOp Mult int int" => (with_reducible refine mul_at hsh szj szn ?_)
    k_with "M binaryOp LShift int int" => (with_reducible refine shl_n szu (by omega) ?_)
    k_with "M call ref" => (walk_at "MINE g"; (case C => first | exact C1 _ _ | exact C2 _ _); walk_at "MINE h")
    refine wpAny_call ?_
    k_dflt walk_at "MINE n"
    k_steps
    exact hret _ _ _ (by assumption) (by assumption)
theorem inner2_all (w : World) (n : Nat) (hn : n ≤ 7000) (tn : Tok) (D cdg ci cn f c' : Addr) (oa oi on oc : Obj) (vsq : Array Value) (tq : Tok) (doc pm ctv : Value) (news : List (Addr × Obj)) (qn : Str) (nm pr bd sc dec ret tp tsc bind pos)
    (vs : List Value) (ns : List Int) (cnt : Nat) (hI : IntsAre vs ns) (hns : ns.length ≤ 100) (hr : ∀ d ∈ ns, 0 ≤ d ∧ d < 2 ^ n)
    (he : Stmt.FunctionDef nm pr bd dec ret tp sc tsc bind pos = inAt 5 0)
    (hf : (f, fnMade nm qn pr bd sc [("n", cn), ("inner", ci), ("digits", cdg)] doc pm c' ctv) ∈ news)
    (hc' : (c', oc) ∈ news) (hoc : oc.data = .fields vsq) (hvq : vsq[1]? = some (.str qn tq))
    (ha : (cdg, oa) ∈ news) (hoa : oa.data = .cell (some (.ref D))) (hi : (ci, oi) ∈ news) (hoi : oi.data = .cell (some (.ref f))) (hcn : (cn, on) ∈ news) (hon : on.data = .cell (some (.int n tn)))
    (hD : (D, listOf vs.toArray cnt) ∈ news) (k : Nat) (hk : ns.length = k) (h1 : 1 ≤ k) (tL tR : Tok) :
      ValC w f news [.int 0 tL, .int (k : Int) tR] (val n ns) k := by
  have := inner2 w n hn tn D cdg ci cn f c' oa oi on oc vsq tq doc pm ctv news qn nm pr bd sc dec ret tp tsc bind pos vs ns cnt hI hns hr he hf hc' hoc hvq ha hoa hi hoi hcn hon hD k 0 tL tR h1 (by omega)
  have e : seg ns 0 k = ns := by rw [seg, List.drop_zero, List.take_of_length_le (by omega)]
  rw [e, Nat.zero_add] at this
  exact this
end

section
open PySem PySem.Spec PySem.Calls PySem.W PyProof.Rows
set_option maxRecDepth 100000

theorem fill4 : ∀ (w : World), hd.heap_39 w.params = hd.heap_39 w.params ∧ PySem.Challenge.rw_tx0024_01.prog = PySem.Challenge.rw_tx0024_01.prog := by
  k_fill
  intro w; exact ⟨rfl, rfl⟩



/-- a bound of a ledger's places, as a number for omega -/
def mx : List (Addr × Obj) → Nat
  | [] => 0
  | p :: r => max (p.1 + 1) (mx r)
theorem allLt_mx {d : Addr} : ∀ {l : List (Addr × Obj)}, AllLt d l = (@LE.le Nat _ (mx l) d)
  | [] => propext ⟨fun _ => Nat.zero_le _, fun _ => True.intro⟩
  | p :: r => by
    have ih := allLt_mx (d := d) (l := r)
    unfold AllLt mx
    rw [ih]
    apply propext
    constructor
    · rintro ⟨h1, h2⟩; exact Nat.max_le.mpr ⟨h1, h2⟩
    · intro h; exact ⟨(Nat.max_le.mp h).1, (Nat.max_le.mp h).2⟩
theorem mx_ne {e : Addr} {l : List (Addr × Obj)} (h : @LE.le Nat _ (mx l) e) : ∀ p ∈ l, p.1 ≠ e := fun p hp => Nat.ne_of_lt (kst_ltOf (allLt_mx.symm ▸ h : AllLt e l) p hp)
local macro_rules | `(tactic| k_all) => `(tactic| first | with_reducible assumption | (refine mx_ne ?_; (try simp only [allLt_mx] at *); omega))
local macro_rules | `(tactic| walk_at "binaryOp FloorDiv int int") => `(tactic| k_extra "M binaryOp FloorDiv int int")
local macro_rules | `(tactic| walk_at "MINE c") => `(tactic| (refine' code_defC ?k1 ?k2 ?k3 ?k4 ?k5 ?kA ?kF ?kK ?k6 ?k7 ?k8 ?k9 ?kB ?kD ?_ ?c2 ?c3 ?c4; (case kA => exact rfl); (case kF => exact rfl); (case kK => first | exact rfl | assumption); (case k1 => k_asm); (case k2 => k_asm); (case k3 => k_asm); (case k4 => k_asm); (case k5 => k_asm); (case k6 => k_is); (case k7 => k_is); (case k8 => ktr_room); (case k9 => first | exact BindsTo.of_eq rfl | exact binds_K (by k_in) rfl (by k_is) rfl rfl rfl); (case kB => exact rfl); (case kD => decide +kernel); (case c2 => exact rfl); (case c3 => exact rfl); (case c4 => exact rfl); k_whole; intro g' L' h' tk' cells' FG' F' N' Y' B' X' T' l1; (try k_lt l1); k_cells Y'; (try simp only [List.cons_append, List.nil_append] at N'); (try dsimp only); (try k_fold)))

theorem fdiv_at {prog : Program} {w : World} {A : Around} {E : Value → Shared → Prop} {s : Shared} {a b c : Int} {t u : Tok} {Q : Value → Shared → Prop} (hb : 0 < b) (hb' : b < 1073741824) (e : a / b = c) (h : Q (.int c s.toks) { s with toks := s.toks + 1 }) :
    wpAny (model prog w) A (binaryOp .FloorDiv (.int a t) (.int b u)) Q E s :=
  floordiv_int (by omega) (by rw [Int.fdiv_eq_ediv_of_nonneg a (Int.le_of_lt hb), e]; exact h) (Or.inl (PyProof.noPylong_small (by omega)))


theorem news_pull2 {h₀ h : Heap} {L : Addr} {a b c : Addr × Obj} {r : List (Addr × Obj)} (N : News h₀ L h (a :: b :: c :: r)) : News h₀ L h (c :: a :: b :: r) := fun p hp => N p (by
  rcases List.mem_cons.mp hp with rfl | hp
  · exact .tail _ (.tail _ (.head _))
  · rcases List.mem_cons.mp hp with rfl | hp
    · exact .head _
    · rcases List.mem_cons.mp hp with rfl | hp
      · exact .tail _ (.head _)
      · exact .tail _ (.tail _ (.tail _ hp)))
theorem news_pull1 {h₀ h : Heap} {L : Addr} {a c : Addr × Obj} {r : List (Addr × Obj)} (N : News h₀ L h (a :: c :: r)) : News h₀ L h (c :: a :: r) := fun p hp => N p (by
  rcases List.mem_cons.mp hp with rfl | hp
  · exact .tail _ (.head _)
  · rcases List.mem_cons.mp hp with rfl | hp
    · exact .head _
    · exact .tail _ (.tail _ hp))

theorem News.of3 {h₀ h : Heap} {L : Addr} {e1 e2 e3 : Addr × Obj} {nx news : List (Addr × Obj)} (N : News h₀ L h nx) (h1 : e1 ∈ nx) (h2 : e2 ∈ nx) (h3 : e3 ∈ nx) (hs : ∀ p ∈ news, p ∈ nx) : News h₀ L h (e1 :: e2 :: e3 :: news) := fun p hp => by
  rcases List.mem_cons.mp hp with rfl | hp
  · exact N _ h1
  · rcases List.mem_cons.mp hp with rfl | hp
    · exact N _ h2
    · rcases List.mem_cons.mp hp with rfl | hp
      · exact N _ h3
      · exact N p (hs p hp)

/-- the table of a maker's code: empty, or with the one code that it has made -/
inductive TabSt (P : Addr) (l k : Int) (q : PySem.Str) : List (Addr × Obj) → Prop
  | cold : TabSt P l k q [(P, tabObj #[])]
  | warm {c : Addr} {oc : Obj} {vs : Array Value} {t : Tok} : oc.data = .fields vs → vs[1]? = some (.str q t) → TabSt P l k q [(P, tabObj #[rawInt l, rawInt k, .ref c]), (c, oc)]
def Warm (P : Addr) (l k : Int) (q : PySem.Str) (T : List (Addr × Obj)) : Prop := ∃ (c : Addr) (oc : Obj) (vs : Array Value) (t : Tok), oc.data = .fields vs ∧ vs[1]? = some (.str q t) ∧ T = [(P, tabObj #[rawInt l, rawInt k, .ref c]), (c, oc)]

abbrev q30 : PySem.Str := "_int2digits.<locals>.inner"
abbrev q37 : PySem.Str := "_digits2int.<locals>.inner"

theorem rep_flat {α : Type} (x : α) (K : Nat) : (List.replicate K [x]).flatten = List.replicate K x := by
  induction K with
  | zero => rfl
  | succ n ih => rw [List.replicate_succ, List.flatten_cons, ih, List.replicate_succ]; rfl

theorem i2d_bound {a : Int} {n K : Nat} (h1 : 1 ≤ n) (ha : 0 ≤ a) (hK : (Builtin.Int.intBits a + n - 1) / n = K) : a < 2 ^ (K * n) := by
  have h2 := Nat.div_add_mod (Builtin.Int.intBits a + n - 1) n
  have h3 := Nat.mod_lt (Builtin.Int.intBits a + n - 1) (show 0 < n by omega)
  rw [hK, Nat.mul_comm] at h2
  have hbits : Builtin.Int.intBits a ≤ K * n := by omega
  by_cases h0 : a = 0
  · subst h0; exact pow_pos2 _
  · have hb : Builtin.Int.intBits a = a.natAbs.log2 + 1 := by
      unfold Builtin.Int.intBits
      rw [if_neg (by simpa using h0)]
    have hl : a.natAbs < 2 ^ (a.natAbs.log2 + 1) := Nat.lt_log2_self
    have hp : (2 : Nat) ^ (a.natAbs.log2 + 1) ≤ 2 ^ (K * n) := Nat.pow_le_pow_right (by decide) (by omega)
    have : ((a.natAbs : Nat) : Int) < ((2 ^ (K * n) : Nat) : Int) := by exact_mod_cast Nat.lt_of_lt_of_le hl hp
    push_cast at this
    omega

set_option maxHeartbeats 1000000 in
theorem i2d_cold (w : World) (news : List (Addr × Obj)) (a : Int) (n K : Nat) (ta tn : Tok) (h1 : 1 ≤ n) (hn : n ≤ 7000) (ha : 0 ≤ a) (hK : (Builtin.Int.intBits a + n - 1) / n = K) (hK' : K ≤ 100) (hap : ∀ p ∈ news, p.1 ≠ 30) 
    (p : Program) (loose : List Str) (mean : ExcName → Option Value) (mg mb : Str → Option Value) (dp un : Nat) (gd : Option (List Code)) (cn : Str) (cs : Scope) (fa : Addr) (ccd : Value) (cl : List (Str × Addr)) (outer : List Env) (A₀ : Around) (base h₀ : Heap) (L : Addr) (m : Str → Option Value) (s : Shared) (Q E : Value → Shared → Prop)
    (hC : CodeHd base 34 30) (B : Below A₀ base outer h₀) (F : Fr h₀ L s.heap m) (X : (hd.heap_39 w.params).In h₀) (N : News h₀ L s.heap ((30, tabObj #[]) :: news)) (T : Top p loose mean mg mb h₀) (hk : cs.kind = .function)
    (hd : dp + 102 < recursionLimit) (hu : un + 8 * 102 < cLine)
    (hret : ∀ D vs h' tk c oc vq t, oc.data = .fields vq → vq[1]? = some (.str q30 t) → IntsAre vs (digs n K a) → Fr h₀ L h' m → News h₀ L h' ((D, listOf vs.toArray 0) :: (30, tabObj #[rawInt 32, rawInt 4, .ref c]) :: (c, oc) :: news) → mx news ≤ D → 30 ≠ D → c ≠ D → (∀ p ∈ news, p.1 ≠ c) →  Q (.ref D) { s with heap := h', toks := tk }) :
    wpAny (model PR w) (ktrTop dp un gd cn cs L fa ccd cl outer) (call (.ref 35) [.int a ta, .int n tn]) Q E s := by
  have hKd : ((Builtin.Int.intBits a : Int) + (n : Int) - 1) / (n : Int) = (K : Int) := by
    rw [← hK]; push_cast; congr 1; omega
  have hlt := i2d_bound h1 ha hK
  k_with_none
  k_with "M binaryOp FloorDiv int int" => (with_reducible refine fdiv_at (by omega) (by omega) hKd ?_)
  refine wpAny_call ?_
  k_dflt walk_at "MINE c"
  k_steps
  · rename_i i1 n1 s1 e1 e2 e3 l1 hh oa d1 fI cI ocI vsI tI ctI dcI hh2 tk2 d1I d2I l1I l2I hh3 oI F9 N9 dI hane
    obtain rfl : K = n1 := by have := e3 (by omega); omega
    have N10 := news_pull2 N9
    simp only [Int.toNat_natCast, rep_flat] at N10 i1
    have hK1 : 1 ≤ K := by
      rcases Nat.eq_zero_or_pos K with h0 | h0
      · subst h0; simp at hlt; omega
      · exact h0
    k_dflt (refine' DigC.use (inner1_all w n hn tn _ _ _ _ _ _ _ _ _ _ _ _ _ _ _ _ _ _ _ _ _ _ _ _ _ _ _ rfl ?mf ?mc d1I d2I ?ma d1 ?mi dI ?mn ?dn ?hD K a ta _ _ hK1 hK' ha hlt) ?hi ?B ?F ?X ?N ?T ?hk ?hd ?hu ?_; (case N => exact N10))
    case mf => k_mem
    case mc => k_mem
    case ma => k_mem
    case mi => k_mem
    case mn => k_mem
    case dn => assumption
    case hD => k_all
    case hi => exact i1
    case B => k_asm
    case F => k_asm
    case X => k_asm
    case T => k_asm
    case hk => exact rfl
    case hd => ktr_room
    case hu => ktr_units
    intro vs' h' tk' hi' F' N'
    (try dsimp only)
    k_steps
    rename News h₀ _ _ _ => kN
    try simp only [Array.empty_append] at kN
    refine hret _ _ _ _ cI ocI vsI tI d1I d2I hi' (by assumption) (News.of3 kN ?_ ?_ ?_ ?_) ?_ ?_ ?_ ?_
    · k_mem
    · k_dflt k_mem
    · k_mem
    · repeat (first | exact sub_refl | refine sub_cons ?_)
    · simp only [allLt_mx] at *; omega
    · k_ne
    · first | exact hcD | k_ne
    · first | exact hnc | (refine mx_ne ?_; simp only [allLt_mx] at *; omega)
  · rename_i i1 n1 s1 e1 e2 e3 l1 hh oa d1 fI cI ocI vsI tI ctI dcI hh2 tk2 d1I d2I l1I l2I hh3 oI F9 N9 dI hane kF kN kT kX
    subst hane
    have hK0 : K = 0 := by
      rw [← hK]; exact Nat.div_eq_of_lt (by have : Builtin.Int.intBits 0 = 0 := rfl; omega)
    subst hK0
    simp only [Int.toNat_natCast, rep_flat, List.replicate_zero] at i1 kN
    try simp only [Array.empty_append] at kN
    refine hret _ [] _ _ cI ocI vsI tI d1I d2I i1 (by assumption) (News.of3 kN ?_ ?_ ?_ ?_) ?_ ?_ ?_ ?_
    · k_dflt k_mem
    · k_dflt k_mem
    · k_mem
    · repeat (first | exact sub_refl | refine sub_cons ?_)
    · simp only [allLt_mx] at *; omega
    · k_ne
    · first | exact hcD | k_ne
    · first | exact hnc | (refine mx_ne ?_; simp only [allLt_mx] at *; omega)

set_option maxHeartbeats 1000000 in
theorem i2d_warm (w : World) (news : List (Addr × Obj)) (a : Int) (n K : Nat) (ta tn : Tok) (h1 : 1 ≤ n) (hn : n ≤ 7000) (ha : 0 ≤ a) (hK : (Builtin.Int.intBits a + n - 1) / n = K) (hK' : K ≤ 100) (hap : ∀ p ∈ news, p.1 ≠ 30) (c0 : Addr) (oc0 : Obj) (vs0 : Array Value) (t0 : Tok) (hoc0 : oc0.data = .fields vs0) (hv0 : vs0[1]? = some (.str q30 t0)) (hnc : ∀ p ∈ news, p.1 ≠ c0)
    (p : Program) (loose : List Str) (mean : ExcName → Option Value) (mg mb : Str → Option Value) (dp un : Nat) (gd : Option (List Code)) (cn : Str) (cs : Scope) (fa : Addr) (ccd : Value) (cl : List (Str × Addr)) (outer : List Env) (A₀ : Around) (base h₀ : Heap) (L : Addr) (m : Str → Option Value) (s : Shared) (Q E : Value → Shared → Prop)
    (hC : CodeHd base 34 30) (B : Below A₀ base outer h₀) (F : Fr h₀ L s.heap m) (X : (hd.heap_39 w.params).In h₀) (N : News h₀ L s.heap ((30, tabObj #[rawInt 32, rawInt 4, .ref c0]) :: (c0, oc0) :: news)) (T : Top p loose mean mg mb h₀) (hk : cs.kind = .function)
    (hd : dp + 102 < recursionLimit) (hu : un + 8 * 102 < cLine)
    (hret : ∀ D vs h' tk c oc vq t, oc.data = .fields vq → vq[1]? = some (.str q30 t) → IntsAre vs (digs n K a) → Fr h₀ L h' m → News h₀ L h' ((D, listOf vs.toArray 0) :: (30, tabObj #[rawInt 32, rawInt 4, .ref c]) :: (c, oc) :: news) → mx news ≤ D → 30 ≠ D → c ≠ D → (∀ p ∈ news, p.1 ≠ c) → c = c0 → oc = oc0 → Q (.ref D) { s with heap := h', toks := tk }) :
    wpAny (model PR w) (ktrTop dp un gd cn cs L fa ccd cl outer) (call (.ref 35) [.int a ta, .int n tn]) Q E s := by
  have hKd : ((Builtin.Int.intBits a : Int) + (n : Int) - 1) / (n : Int) = (K : Int) := by
    rw [← hK]; push_cast; congr 1; omega
  have hlt := i2d_bound h1 ha hK
  k_with_none
  k_with "M binaryOp FloorDiv int int" => (with_reducible refine fdiv_at (by omega) (by omega) hKd ?_)
  refine wpAny_call ?_
  k_dflt walk_at "MINE c"
  k_steps
  · rename_i i1 n1 s1 e1 e2 e3 l1 hh oa d1 fI ctI dcI hh2 tk2 l1I hh3 oI F9 N9 dI hane
    obtain rfl : K = n1 := by have := e3 (by omega); omega
    have N10 := news_pull1 N9
    simp only [Int.toNat_natCast, rep_flat] at N10 i1
    have hK1 : 1 ≤ K := by
      rcases Nat.eq_zero_or_pos K with h0 | h0
      · subst h0; simp at hlt; omega
      · exact h0
    k_dflt (refine' DigC.use (inner1_all w n hn tn _ _ _ _ _ _ _ _ _ _ _ _ _ _ _ _ _ _ _ _ _ _ _ _ _ _ _ rfl ?mf ?mc hoc0 hv0 ?ma d1 ?mi dI ?mn ?dn ?hD K a ta _ _ hK1 hK' ha hlt) ?hi ?B ?F ?X ?N ?T ?hk ?hd ?hu ?_; (case N => exact N10))
    case mf => k_mem
    case mc => k_mem
    case ma => k_mem
    case mi => k_mem
    case mn => k_mem
    case dn => assumption
    case hD => k_all
    case hi => exact i1
    case B => k_asm
    case F => k_asm
    case X => k_asm
    case T => k_asm
    case hk => exact rfl
    case hd => ktr_room
    case hu => ktr_units
    intro vs' h' tk' hi' F' N'
    (try dsimp only)
    k_steps
    rename News h₀ _ _ _ => kN
    try simp only [Array.empty_append] at kN
    refine hret _ _ _ _ c0 oc0 vs0 t0 hoc0 hv0 hi' (by assumption) (News.of3 kN ?_ ?_ ?_ ?_) ?_ ?_ ?_ ?_ rfl rfl
    · k_mem
    · k_dflt k_mem
    · k_mem
    · repeat (first | exact sub_refl | refine sub_cons ?_)
    · simp only [allLt_mx] at *; omega
    · k_ne
    · first | exact hcD | k_ne
    · first | exact hnc | (refine mx_ne ?_; simp only [allLt_mx] at *; omega)
  · rename_i i1 n1 s1 e1 e2 e3 l1 hh oa d1 fI ctI dcI hh2 tk2 l1I hh3 oI F9 N9 dI hane kF kN kT kX
    subst hane
    have hK0 : K = 0 := by
      rw [← hK]; exact Nat.div_eq_of_lt (by have : Builtin.Int.intBits 0 = 0 := rfl; omega)
    subst hK0
    simp only [Int.toNat_natCast, rep_flat, List.replicate_zero] at i1 kN
    try simp only [Array.empty_append] at kN
    refine hret _ [] _ _ c0 oc0 vs0 t0 hoc0 hv0 i1 (by assumption) (News.of3 kN ?_ ?_ ?_ ?_) ?_ ?_ ?_ ?_ rfl rfl
    · k_dflt k_mem
    · k_dflt k_mem
    · k_mem
    · repeat (first | exact sub_refl | refine sub_cons ?_)
    · simp only [allLt_mx] at *; omega
    · k_ne
    · first | exact hcD | k_ne
    · first | exact hnc | (refine mx_ne ?_; simp only [allLt_mx] at *; omega)

end

section
open PySem PySem.Spec PySem.Calls PySem.W PyProof.Rows
set_option maxRecDepth 100000

theorem fill5 : ∀ (w : World), hd.heap_39 w.params = hd.heap_39 w.params ∧ PySem.Challenge.rw_tx0024_01.prog = PySem.Challenge.rw_tx0024_01.prog := by
  k_fill
  intro w; exact ⟨rfl, rfl⟩
local macro_rules | `(tactic| walk_at "MINE a") => `(tactic| (k_here; k_dflt (refine' TupC.use ?C ?B ?F ?X ?N ?T ?hk ?hd ?hu ?_; (case N => k_asm); (case F => k_asm))))
local macro_rules | `(tactic| walk_at "MINE b") => `(tactic| (k_dflt ((case B => k_asm); (case X => k_asm); (case T => k_asm); (case hk => first | exact rfl | assumption); (case hd => ktr_room); (case hu => ktr_units); k_whole); intro D' t1' t2' c' h' tk' F' N' l1; (try dsimp only); (try k_sweep); (try k_fold)))


local macro_rules | `(tactic| walk_at "MINE a") => `(tactic| (k_here; k_dflt (refine' TupC.use ?C ?B ?F ?X ?N ?T ?hk ?hd ?hu ?_; (case N => k_asm); (case F => k_asm))))
local macro_rules | `(tactic| walk_at "MINE b") => `(tactic| (k_dflt ((case B => k_asm); (case X => k_asm); (case T => k_asm); (case hk => first | exact rfl | assumption); (case hd => ktr_room); (case hu => ktr_units); k_whole); intro D' t1' t2' c' h' tk' F' N' l1; (try dsimp only); (try k_sweep); (try k_fold)))
local macro_rules | `(tactic| k_all) => `(tactic| first | with_reducible assumption | (refine mx_ne ?_; (try simp only [allLt_mx] at *); omega))
local macro_rules | `(tactic| walk_at "MINE c") => `(tactic| (refine' code_defC ?k1 ?k2 ?k3 ?k4 ?k5 ?kA ?kF ?kK ?k6 ?k7 ?k8 ?k9 ?kB ?kD ?_ ?c2 ?c3 ?c4; (case kA => exact rfl); (case kF => exact rfl); (case kK => first | exact rfl | assumption); (case k1 => k_asm); (case k2 => k_asm); (case k3 => k_asm); (case k4 => k_asm); (case k5 => k_asm); (case k6 => k_is); (case k7 => k_is); (case k8 => ktr_room); (case k9 => first | exact BindsTo.of_eq rfl | exact binds_K (by k_in) rfl (by k_is) rfl rfl rfl); (case kB => exact rfl); (case kD => decide +kernel); (case c2 => exact rfl); (case c3 => exact rfl); (case c4 => exact rfl); k_whole; intro g' L' h' tk' cells' FG' F' N' Y' B' X' T' l1; (try k_lt l1); k_cells Y'; (try simp only [List.cons_append, List.nil_append] at N'); (try dsimp only); (try k_fold)))
local macro_rules | `(tactic| walk_at "truthy ref") => `(tactic| k_extra "M truthy ref")
local macro_rules | `(tactic| walk_at "call builtin:len") => `(tactic| k_extra "M len")
theorem truthy_len {prog : Program} {w : World} {A : Around} {E : Value → Shared → Prop} {s : Shared} {h₀ : Heap} {L D : Addr} {vs : List Value} {c k : Nat} {news : List (Addr × Obj)} {Q : Bool → Shared → Prop} (N : News h₀ L s.heap news) (hm : (D, listOf vs.toArray c) ∈ news) (e : vs.length = k) (hfit : (k : Int) < 2 ^ 63)
    (h : Q (decide (0 < k)) { s with toks := s.toks + 1 + 1 }) : wpAny (model prog w) A (truthy (.ref D)) Q E s := by
  refine wpAny_truthy_list (News.isList N hm) (by rw [List.size_toArray, e]; exact hfit) ?_
  have e2 : (!vs.toArray.isEmpty) = decide (0 < k) := by
    rw [← e]
    cases vs with
    | nil => rfl
    | cons a r => simp
  rw [e2]; exact h
theorem News.of2 {h₀ h : Heap} {L : Addr} {e1 e2 : Addr × Obj} {nx news : List (Addr × Obj)} (N : News h₀ L h nx) (h1 : e1 ∈ nx) (h2 : e2 ∈ nx) (hs : ∀ p ∈ news, p ∈ nx) : News h₀ L h (e1 :: e2 :: news) := fun p hp => by
  rcases List.mem_cons.mp hp with rfl | hp
  · exact N _ h1
  · rcases List.mem_cons.mp hp with rfl | hp
    · exact N _ h2
    · exact N p (hs p hp)

set_option maxHeartbeats 1000000 in
theorem d2i_cold (w : World) (news : List (Addr × Obj)) (D : Addr) (vs : List Value) (ns : List Int) (cnt : Nat) (n : Nat) (tn : Tok) (hn : n ≤ 7000) (hI : IntsAre vs ns) (hns : ns.length ≤ 100) (hr : ∀ d ∈ ns, 0 ≤ d ∧ d < 2 ^ n) (hD : (D, listOf vs.toArray cnt) ∈ news) (hap : ∀ p ∈ news, p.1 ≠ 37) 
    (p : Program) (loose : List Str) (mean : ExcName → Option Value) (mg mb : Str → Option Value) (dp un : Nat) (gd : Option (List Code)) (cn : Str) (cs : Scope) (fa : Addr) (ccd : Value) (cl : List (Str × Addr)) (outer : List Env) (A₀ : Around) (base h₀ : Heap) (L : Addr) (m : Str → Option Value) (s : Shared) (Q E : Value → Shared → Prop)
    (hC : CodeHd base 41 37) (B : Below A₀ base outer h₀) (F : Fr h₀ L s.heap m) (X : (hd.heap_39 w.params).In h₀) (N : News h₀ L s.heap ((37, tabObj #[]) :: news)) (T : Top p loose mean mg mb h₀) (hk : cs.kind = .function)
    (hd : dp + 102 < recursionLimit) (hu : un + 8 * 102 < cLine)
    (hret : ∀ t' h' tk c oc vq t, oc.data = .fields vq → vq[1]? = some (.str q37 t) → Fr h₀ L h' m → News h₀ L h' ((37, tabObj #[rawInt 47, rawInt 4, .ref c]) :: (c, oc) :: news) → (∀ p ∈ news, p.1 ≠ c) →  Q (.int (val n ns) t') { s with heap := h', toks := tk }) :
    wpAny (model PR w) (ktrTop dp un gd cn cs L fa ccd cl outer) (call (.ref 42) [.ref D, .int n tn]) Q E s := by
  have hsz : vs.length = ns.length := hI.length
  k_with_none
  k_with "M truthy ref" => (k_dflt (refine' truthy_len ?tN ?tm hsz ?tf ?_; (case tN => k_asm); (case tm => k_mem); (case tf => omega)))
  k_with "M len" => (k_dflt (refine' kst_len ?tN ?tm hsz ?tf ?_; (case tN => k_asm); (case tm => k_mem); (case tf => omega)))
  refine wpAny_call ?_
  k_dflt walk_at "MINE c"
  k_steps
  · rename_i fI cI ocI vsI tI ctI dcI hh2 tk2 d1I d2I l1I l2I hh3 oI F9 N9 dI hpos
    k_dflt (refine' ValC.use (inner2_all w n hn tn D _ _ _ _ _ _ _ _ _ _ _ _ _ _ _ _ _ _ _ _ _ _ _ _ _ _ vs ns cnt hI hns hr rfl ?mf ?mc d1I d2I ?ma ?da ?mi dI ?mn ?dn ?mD _ rfl hpos _ _) ?B ?F ?X ?N ?T ?hk ?hd ?hu ?_; (case N => exact N9))
    case mf => k_mem
    case mc => k_mem
    case ma => k_mem
    case mi => k_mem
    case mn => k_mem
    case mD => k_mem
    case da => assumption
    case dn => assumption
    case B => k_asm
    case F => k_asm
    case X => k_asm
    case T => k_asm
    case hk => exact rfl
    case hd => ktr_room
    case hu => ktr_units
    intro t' h' tk' F' N'
    (try dsimp only)
    k_steps
    rename News h₀ _ _ _ => kN
    try simp only [Array.empty_append] at kN
    refine hret _ _ _ cI ocI vsI tI d1I d2I (by assumption) (News.of2 kN ?_ ?_ ?_) (by refine mx_ne ?_; simp only [allLt_mx] at *; omega)
    · k_dflt k_mem
    · k_mem
    · repeat (first | exact sub_refl | refine sub_cons ?_)
  · rename_i fI cI ocI vsI tI ctI dcI hh2 tk2 d1I d2I l1I l2I hh3 oI F9 N9 dI hpos kF kN kT kX
    have hnil : ns = [] := List.length_eq_zero_iff.mp (by omega)
    subst hnil
    try simp only [Array.empty_append] at kN
    refine hret _ _ _ cI ocI vsI tI d1I d2I (by assumption) (News.of2 kN ?_ ?_ ?_) (by refine mx_ne ?_; simp only [allLt_mx] at *; omega)
    · k_dflt k_mem
    · k_mem
    · repeat (first | exact sub_refl | refine sub_cons ?_)

set_option maxHeartbeats 1000000 in
theorem d2i_warm (w : World) (news : List (Addr × Obj)) (D : Addr) (vs : List Value) (ns : List Int) (cnt : Nat) (n : Nat) (tn : Tok) (hn : n ≤ 7000) (hI : IntsAre vs ns) (hns : ns.length ≤ 100) (hr : ∀ d ∈ ns, 0 ≤ d ∧ d < 2 ^ n) (hD : (D, listOf vs.toArray cnt) ∈ news) (hap : ∀ p ∈ news, p.1 ≠ 37) (c0 : Addr) (oc0 : Obj) (vs0 : Array Value) (t0 : Tok) (hoc0 : oc0.data = .fields vs0) (hv0 : vs0[1]? = some (.str q37 t0)) (hnc : ∀ p ∈ news, p.1 ≠ c0)
    (p : Program) (loose : List Str) (mean : ExcName → Option Value) (mg mb : Str → Option Value) (dp un : Nat) (gd : Option (List Code)) (cn : Str) (cs : Scope) (fa : Addr) (ccd : Value) (cl : List (Str × Addr)) (outer : List Env) (A₀ : Around) (base h₀ : Heap) (L : Addr) (m : Str → Option Value) (s : Shared) (Q E : Value → Shared → Prop)
    (hC : CodeHd base 41 37) (B : Below A₀ base outer h₀) (F : Fr h₀ L s.heap m) (X : (hd.heap_39 w.params).In h₀) (N : News h₀ L s.heap ((37, tabObj #[rawInt 47, rawInt 4, .ref c0]) :: (c0, oc0) :: news)) (T : Top p loose mean mg mb h₀) (hk : cs.kind = .function)
    (hd : dp + 102 < recursionLimit) (hu : un + 8 * 102 < cLine)
    (hret : ∀ t' h' tk c oc vq t, oc.data = .fields vq → vq[1]? = some (.str q37 t) → Fr h₀ L h' m → News h₀ L h' ((37, tabObj #[rawInt 47, rawInt 4, .ref c]) :: (c, oc) :: news) → (∀ p ∈ news, p.1 ≠ c) → c = c0 → oc = oc0 → Q (.int (val n ns) t') { s with heap := h', toks := tk }) :
    wpAny (model PR w) (ktrTop dp un gd cn cs L fa ccd cl outer) (call (.ref 42) [.ref D, .int n tn]) Q E s := by
  have hsz : vs.length = ns.length := hI.length
  k_with_none
  k_with "M truthy ref" => (k_dflt (refine' truthy_len ?tN ?tm hsz ?tf ?_; (case tN => k_asm); (case tm => k_mem); (case tf => omega)))
  k_with "M len" => (k_dflt (refine' kst_len ?tN ?tm hsz ?tf ?_; (case tN => k_asm); (case tm => k_mem); (case tf => omega)))
  refine wpAny_call ?_
  k_dflt walk_at "MINE c"
  k_steps
  · rename_i fI ctI dcI hh2 tk2 l1I hh3 oI F9 N9 dI hpos
    k_dflt (refine' ValC.use (inner2_all w n hn tn D _ _ _ _ _ _ _ _ _ _ _ _ _ _ _ _ _ _ _ _ _ _ _ _ _ _ vs ns cnt hI hns hr rfl ?mf ?mc hoc0 hv0 ?ma ?da ?mi dI ?mn ?dn ?mD _ rfl hpos _ _) ?B ?F ?X ?N ?T ?hk ?hd ?hu ?_; (case N => exact N9))
    case mf => k_mem
    case mc => k_mem
    case ma => k_mem
    case mi => k_mem
    case mn => k_mem
    case mD => k_mem
    case da => assumption
    case dn => assumption
    case B => k_asm
    case F => k_asm
    case X => k_asm
    case T => k_asm
    case hk => exact rfl
    case hd => ktr_room
    case hu => ktr_units
    intro t' h' tk' F' N'
    (try dsimp only)
    k_steps
    rename News h₀ _ _ _ => kN
    try simp only [Array.empty_append] at kN
    refine hret _ _ _ c0 oc0 vs0 t0 hoc0 hv0 (by assumption) (News.of2 kN ?_ ?_ ?_) hnc rfl rfl
    · k_dflt k_mem
    · k_mem
    · repeat (first | exact sub_refl | refine sub_cons ?_)
  · rename_i fI ctI dcI hh2 tk2 l1I hh3 oI F9 N9 dI hpos kF kN kT kX
    have hnil : ns = [] := List.length_eq_zero_iff.mp (by omega)
    subst hnil
    try simp only [Array.empty_append] at kN
    refine hret _ _ _ c0 oc0 vs0 t0 hoc0 hv0 (by assumption) (News.of2 kN ?_ ?_ ?_) hnc rfl rfl
    · k_dflt k_mem
    · k_mem
    · repeat (first | exact sub_refl | refine sub_cons ?_)

end

section
open PySem PySem.Spec PySem.Calls PySem.W PyProof.Rows
set_option maxRecDepth 100000

def ApartL (T news : List (Addr × Obj)) : Prop := ∀ q ∈ T, ∀ p ∈ news, p.1 ≠ q.1
theorem ApartL.app {T a b : List (Addr × Obj)} (h1 : ApartL T a) (h2 : ApartL T b) : ApartL T (a ++ b) := fun q hq p hp => (List.mem_append.mp hp).elim (h1 q hq p) (h2 q hq p)
theorem ApartL.sub {T a b : List (Addr × Obj)} (h : ApartL T b) (hs : ∀ p ∈ a, p ∈ b) : ApartL T a := fun q hq p hp => h q hq p (hs p hp)
theorem ApartL.symm {T a : List (Addr × Obj)} (h : ApartL T a) : ApartL a T := fun q hq p hp => (h p hp q hq).symm
abbrev W30 (T : List (Addr × Obj)) : Prop := Warm 30 32 4 q30 T
abbrev W37 (T : List (Addr × Obj)) : Prop := Warm 37 47 4 q37 T
theorem Warm.tab {P : Addr} {l k : Int} {q : PySem.Str} {T : List (Addr × Obj)} (h : Warm P l k q T) : TabSt P l k q T := by
  obtain ⟨c, oc, vs, t, h1, h2, rfl⟩ := h
  exact .warm h1 h2

theorem i2d (w : World) (news T1 : List (Addr × Obj)) (hT : TabSt 30 32 4 q30 T1) (ap : ApartL T1 news) (a : Int) (n K : Nat) (ta tn : Tok) (h1 : 1 ≤ n) (hn : n ≤ 7000) (ha : 0 ≤ a) (hK : (Builtin.Int.intBits a + n - 1) / n = K) (hK' : K ≤ 100)
    {p : Program} {loose : List Str} {mean : ExcName → Option Value} {mg mb : Str → Option Value} {dp un : Nat} {gd : Option (List Code)} {cn : Str} {cs : Scope} {fa : Addr} {ccd : Value} {cl : List (Str × Addr)} {outer : List Env} {A₀ : Around} {base h₀ : Heap} {L : Addr} {m : Str → Option Value} {s : Shared} {Q E : Value → Shared → Prop}
    (hC : CodeHd base 34 30) (B : Below A₀ base outer h₀) (F : Fr h₀ L s.heap m) (X : (hd.heap_39 w.params).In h₀) (N : News h₀ L s.heap (T1 ++ news)) (T : Top p loose mean mg mb h₀) (hk : cs.kind = .function)
    (hd : dp + 102 < recursionLimit) (hu : un + 8 * 102 < cLine)
    (hret : ∀ D vs h' tk T', W30 T' → (W30 T1 → T' = T1) → ApartL T' news → (∀ q ∈ T', q.1 ≠ D) → IntsAre vs (digs n K a) → Fr h₀ L h' m → News h₀ L h' ((D, listOf vs.toArray 0) :: (T' ++ news)) → @LE.le Nat _ (mx news) D → Q (.ref D) { s with heap := h', toks := tk }) :
    wpAny (model PR w) (ktrTop dp un gd cn cs L fa ccd cl outer) (call (.ref 35) [.int a ta, .int n tn]) Q E s := by
  cases hT with
  | cold =>
    refine i2d_cold w news a n K ta tn h1 hn ha hK hK' (fun p hp => ap _ (.head _) p hp) p loose mean mg mb dp un gd cn cs fa ccd cl outer A₀ base h₀ L m s Q E hC B F X N T hk hd hu ?_
    intro D vs h' tk c oc vq t e1 e2 hi F' N' hmx h30 hcD hnc
    refine hret D vs h' tk [(30, tabObj #[rawInt 32, rawInt 4, .ref c]), (c, oc)] ⟨c, oc, vq, t, e1, e2, rfl⟩ ?_ ?_ ?_ hi F' N' hmx
    · rintro ⟨_, _, _, _, _, _, h⟩
      exact absurd (congrArg List.length h) (by simp)
    · intro q hq p hp
      rcases List.mem_cons.mp hq with rfl | hq
      · exact ap _ (.head _) p hp
      · rcases List.mem_singleton.mp hq with rfl
        exact hnc p hp
    · intro q hq
      rcases List.mem_cons.mp hq with rfl | hq
      · exact h30
      · rcases List.mem_singleton.mp hq with rfl
        exact hcD
  | @warm c0 oc0 vs0 t0 g1 g2 =>
    refine i2d_warm w news a n K ta tn h1 hn ha hK hK' (fun p hp => ap _ (.head _) p hp) c0 oc0 vs0 t0 g1 g2 (fun p hp => ap _ (.tail _ (.head _)) p hp) p loose mean mg mb dp un gd cn cs fa ccd cl outer A₀ base h₀ L m s Q E hC B F X N T hk hd hu ?_
    intro D vs h' tk c oc vq t e1 e2 hi F' N' hmx h30 hcD hnc ec eo
    subst ec eo
    refine hret D vs h' tk _ ⟨c, oc, vq, t, e1, e2, rfl⟩ (fun _ => rfl) ap ?_ hi F' N' hmx
    intro q hq
    rcases List.mem_cons.mp hq with rfl | hq
    · exact h30
    · rcases List.mem_singleton.mp hq with rfl
      exact hcD

theorem d2i (w : World) (news T2 : List (Addr × Obj)) (hT : TabSt 37 47 4 q37 T2) (ap : ApartL T2 news) (D : Addr) (vs : List Value) (ns : List Int) (cnt n : Nat) (tn : Tok) (hn : n ≤ 7000) (hI : IntsAre vs ns) (hns : ns.length ≤ 100) (hr : ∀ d ∈ ns, 0 ≤ d ∧ d < 2 ^ n) (hD : (D, listOf vs.toArray cnt) ∈ news)
    {p : Program} {loose : List Str} {mean : ExcName → Option Value} {mg mb : Str → Option Value} {dp un : Nat} {gd : Option (List Code)} {cn : Str} {cs : Scope} {fa : Addr} {ccd : Value} {cl : List (Str × Addr)} {outer : List Env} {A₀ : Around} {base h₀ : Heap} {L : Addr} {m : Str → Option Value} {s : Shared} {Q E : Value → Shared → Prop}
    (hC : CodeHd base 41 37) (B : Below A₀ base outer h₀) (F : Fr h₀ L s.heap m) (X : (hd.heap_39 w.params).In h₀) (N : News h₀ L s.heap (T2 ++ news)) (T : Top p loose mean mg mb h₀) (hk : cs.kind = .function)
    (hd : dp + 102 < recursionLimit) (hu : un + 8 * 102 < cLine)
    (hret : ∀ t' h' tk T', W37 T' → (W37 T2 → T' = T2) → ApartL T' news → Fr h₀ L h' m → News h₀ L h' (T' ++ news) → Q (.int (val n ns) t') { s with heap := h', toks := tk }) :
    wpAny (model PR w) (ktrTop dp un gd cn cs L fa ccd cl outer) (call (.ref 42) [.ref D, .int n tn]) Q E s := by
  cases hT with
  | cold =>
    refine d2i_cold w news D vs ns cnt n tn hn hI hns hr hD (fun p hp => ap _ (.head _) p hp) p loose mean mg mb dp un gd cn cs fa ccd cl outer A₀ base h₀ L m s Q E hC B F X N T hk hd hu ?_
    intro t' h' tk c oc vq t e1 e2 F' N' hnc
    refine hret t' h' tk [(37, tabObj #[rawInt 47, rawInt 4, .ref c]), (c, oc)] ⟨c, oc, vq, t, e1, e2, rfl⟩ ?_ ?_ F' N'
    · rintro ⟨_, _, _, _, _, _, h⟩
      exact absurd (congrArg List.length h) (by simp)
    · intro q hq p hp
      rcases List.mem_cons.mp hq with rfl | hq
      · exact ap _ (.head _) p hp
      · rcases List.mem_singleton.mp hq with rfl
        exact hnc p hp
  | @warm c0 oc0 vs0 t0 g1 g2 =>
    refine d2i_warm w news D vs ns cnt n tn hn hI hns hr hD (fun p hp => ap _ (.head _) p hp) c0 oc0 vs0 t0 g1 g2 (fun p hp => ap _ (.tail _ (.head _)) p hp) p loose mean mg mb dp un gd cn cs fa ccd cl outer A₀ base h₀ L m s Q E hC B F X N T hk hd hu ?_
    intro t' h' tk c oc vq t e1 e2 F' N' hnc ec eo
    subst ec eo
    exact hret t' h' tk _ ⟨c, oc, vq, t, e1, e2, rfl⟩ (fun _ => rfl) ap F' N'

/-! a loop over a reversed list, by what holds of the values that are left -/
section
variable {prog : Program} {w : World} {A : Around} {E : Value → Shared → Prop} {s : Shared} {env : Env} {h₀ : Heap} {x : Str} {body : List Stmt} {Q : Flow → Shared → Prop}
theorem unr_mono {L I : Addr} {it : Obj} {s₁ : Shared} {R R' : (Str → Option Value) → List (Addr × Obj) → Prop} (hR : ∀ m n, R m n → R' m n) {f : Flow} {s₂ : Shared} (h : UnrPost h₀ L s₁ I it R Q f s₂) : UnrPost h₀ L s₁ I it R' Q f s₂ := by
  have up : UnrEnd h₀ L s₁ I it R s₂ → UnrEnd h₀ L s₁ I it R' s₂ := fun ⟨h', tk, m', n', e, F, N, o, r⟩ => ⟨h', tk, m', n', e, F, N, o, hR _ _ r⟩
  cases f with
  | ret v => exact h
  | brk => exact h
  | next => exact up h
  | cont => exact up h
theorem rev_inv {I : Addr} {lp : Addr × Obj} (J : List Value → (Str → Option Value) → List (Addr × Obj) → Prop)
    (turn : ∀ v r m news (it : Obj) h tk, J (v :: r) m news → Fr h₀ env.locals h (fun y => if y = x then some v else m y) → News h₀ env.locals h ((I, it) :: news) →
      wpAny (model prog w) A (execs body env) (UnrPost h₀ env.locals { s with heap := h, toks := tk } I it (fun m' n' => lp ∈ n' ∧ J r m' n') Q) E { s with heap := h, toks := tk })
    (done : ∀ m news h tk, J [] m news → Fr h₀ env.locals h m → News h₀ env.locals h news → Q .next { s with heap := h, toks := tk }) :
    ∀ l m news, J l m news → RevRest prog w A E h₀ env x body Q s I lp l m news := by
  intro l
  induction l with
  | nil => intro m news hj; exact fun h tk F N => done m news h tk hj F N
  | cons v r ih =>
    intro m news hj it h tk _ F N
    exact wpAny_mono (turn v r m news it h tk hj F N) (fun f s₂ p => unr_mono (fun m' n' q => ⟨q.1, ih m' n' q.2⟩) p) fun _ _ e => e
theorem offI_of {I : Addr} {it : Obj} : ∀ {l : List (Addr × Obj)}, (∀ p ∈ l, p.1 ≠ I) → OffI I it l
  | [], _ => True.intro
  | p :: _, h => ⟨.inl (h p (.head _)), offI_of fun q hq => h q (.tail _ hq)⟩
end
end

section
open PySem PySem.Spec PySem.Calls PySem.W PyProof.Rows
set_option maxRecDepth 100000
local macro_rules | `(tactic| k_all) => `(tactic| first | with_reducible assumption | (refine mx_ne ?_; (try simp only [allLt_mx] at *); omega))

section
open PySem PySem.Spec PySem.Calls PySem.W PyProof.Rows
set_option maxRecDepth 100000

theorem fill6 : ∀ (w : World), hd.heap_39 w.params = hd.heap_39 w.params ∧ PySem.Challenge.rw_tx0024_01.prog = PySem.Challenge.rw_tx0024_01.prog := by
  k_fill
  intro w; exact ⟨rfl, rfl⟩
local macro_rules | `(tactic| walk_at "MINE a") => `(tactic| (k_here; k_dflt (refine' TupC.use ?C ?B ?F ?X ?N ?T ?hk ?hd ?hu ?_; (case N => k_asm); (case F => k_asm))))

local macro_rules | `(tactic| walk_at "binaryOp LShift int int") => `(tactic| k_extra "M binaryOp LShift int int")
local macro_rules | `(tactic| walk_at "call ref") => `(tactic| k_extra "M call ref")

local macro_rules | `(tactic| walk_at "call type:reversed") => `(tactic| k_extra "M reversed")
local macro_rules | `(tactic| walk_at "call builtin:int.bit_length") => `(tactic| k_extra "M bits")
local macro_rules | `(tactic| walk_at "call builtin:list.append") => `(tactic| k_extra "M append")
local macro_rules | `(tactic| walk_at "call builtin:list.reverse") => `(tactic| k_extra "M reverse")
local macro_rules | `(tactic| walk_at "MINE enter") => `(tactic| (refine wpAny_call ?_; k_dflt ktr_enter))
section
variable {prog : Program} {w : World} {A : Around} {E : Value → Shared → Prop} {s : Shared} {env : Env} {h₀ : Heap} {x : Str} {body : List Stmt} {Q : Flow → Shared → Prop}
theorem rev_inv2 {I : Addr} {lp : Addr × Obj} {l : List Value} {m₀ : Str → Option Value} {news : List (Addr × Obj)} (P : (Str → Option Value) → List Value → (Str → Option Value) → List (Addr × Obj) → Prop)
    (start : P m₀ l m₀ news)
    (turn : ∀ v r m news (it : Obj) h tk, P m₀ (v :: r) m news → Fr h₀ env.locals h (fun y => if y = x then some v else m y) → News h₀ env.locals h ((I, it) :: news) →
      wpAny (model prog w) A (execs body env) (UnrPost h₀ env.locals { s with heap := h, toks := tk } I it (fun m' n' => lp ∈ n' ∧ P m₀ r m' n') Q) E { s with heap := h, toks := tk })
    (done : ∀ m news h tk, P m₀ [] m news → Fr h₀ env.locals h m → News h₀ env.locals h news → Q .next { s with heap := h, toks := tk }) :
    RevRest prog w A E h₀ env x body Q s I lp l m₀ news := rev_inv (P m₀) turn done l m₀ news start
end
theorem canon3 {a b c : PySem.Str} {m m₀ : Str → Option Value} {v : Option Value} (h1 : m a = v) (h2 : ∀ y, y ≠ a → y ≠ b → y ≠ c → m y = m₀ y) : m = fun y => if y = a then v else if y = b then m y else if y = c then m y else m₀ y := by
  funext y
  by_cases e1 : y = a
  · rw [if_pos e1, e1, h1]
  · rw [if_neg e1]
    by_cases e2 : y = b
    · rw [if_pos e2]
    · rw [if_neg e2]
      by_cases e3 : y = c
      · rw [if_pos e3]
      · rw [if_neg e3]; exact h2 y e1 e2 e3

theorem mx_le_of {d : Addr} {l : List (Addr × Obj)} (h : ∀ p ∈ l, p.1 < d) : @LE.le Nat _ (mx l) d := allLt_mx ▸ (allLt_of h)
theorem news_mid {h₀ h : Heap} {L : Addr} {x y : Addr × Obj} {T1 T2 news : List (Addr × Obj)} (N : News h₀ L h (x :: y :: (T1 ++ (T2 ++ news)))) : News h₀ L h (T2 ++ (x :: y :: (T1 ++ news))) := fun p hp => N p (by
  simp only [List.mem_append, List.mem_cons] at hp ⊢
  rcases hp with h | h | h | h | h <;> simp [h])

def DpJ (n : Nat) (b : Int) (ds : List Int) (QD AD : Addr) (vsA : List Value) (rest : List (Addr × Obj)) (m₀ : Str → Option Value) (rem : List Value) (m : Str → Option Value) (news : List (Addr × Obj)) : Prop :=
  ∃ (dn rs qs : List Int) (qv : List Value) (tr : Tok) (cq : Nat), DpSt n b ds dn rs qs ∧ IntsAre rem rs ∧ IntsAre qv qs ∧ m "r" = some (.int (val n dn.reverse % b) tr) ∧ (∀ y : PySem.Str, y ≠ "r" → y ≠ "q_digit" → y ≠ "a_digit" → m y = m₀ y) ∧
    news = (QD, listOf qv.toArray cq) :: (AD, listOf vsA.toArray 0) :: rest

set_option maxHeartbeats 1000000 in
theorem dp (w : World) (news T1 T2 : List (Addr × Obj)) (hT1 : TabSt 30 32 4 q30 T1) (hT2 : TabSt 37 47 4 q37 T2) (ap1 : ApartL T1 (T2 ++ news)) (ap2 : ApartL T2 news) (a b : Int) (n K : Nat) (ta tb : Tok) (ha : 0 ≤ a) (hb : 0 < b) (hn : Builtin.Int.intBits b = n) (hn7 : n ≤ 7000) (hK : (Builtin.Int.intBits a + n - 1) / n = K) (hK' : K ≤ 100)
    {p : Program} {loose : List Str} {mean : ExcName → Option Value} {mg mb : Str → Option Value} {dp un : Nat} {gd : Option (List Code)} {cn : Str} {cs : Scope} {fa : Addr} {ccd : Value} {cl : List (Str × Addr)} {outer : List Env} {A₀ : Around} {base h₀ : Heap} {L : Addr} {m : Str → Option Value} {s : Shared} {Q E : Value → Shared → Prop}
    (hC1 : CodeHd base 34 30) (hC2 : CodeHd base 41 37) (B : Below A₀ base outer h₀) (F : Fr h₀ L s.heap m) (X : (hd.heap_39 w.params).In h₀) (N : News h₀ L s.heap (T1 ++ (T2 ++ news))) (T : Top p loose mean mg mb h₀) (hk : cs.kind = .function)
    (hd : dp + 104 < recursionLimit) (hu : un + 8 * 104 < cLine)
    (hret : ∀ D t1 t2 h' tk T1' T2', W30 T1' → W37 T2' → (W30 T1 → T1' = T1) → (W37 T2 → T2' = T2) → ApartL T1' (T2' ++ news) → ApartL T2' news → Fr h₀ L h' m → News h₀ L h' ((D, tup2 (a / b) t1 (a % b) t2 0) :: (T1' ++ (T2' ++ news))) → @LE.le Nat _ (mx (T1' ++ (T2' ++ news))) D → Q (.ref D) { s with heap := h', toks := tk }) :
    wpAny (model PR w) (ktrTop dp un gd cn cs L fa ccd cl outer) (call (.ref 49) [.int a ta, .int b tb]) Q E s := by
  obtain ⟨h1, hbl, hbu⟩ := bits_bounds hb hn
  have hds : ∀ d ∈ digs n K a, 0 ≤ d ∧ d < 2 ^ n := digs_range n K a
  k_with_none
  k_with "M call ref" => (k_here; k_dflt (refine' i2d w (T2 ++ news) T1 hT1 ap1 a n K _ _ h1 hn7 ha hK hK' hC1 ?B ?F ?X ?N ?T ?hk ?hd ?hu ?_; (case N => k_asm); (case F => k_asm); (case B => k_asm); (case X => k_asm); (case T => k_asm); (case hk => first | exact rfl | assumption); (case hd => ktr_room); (case hu => ktr_units)); intro AD vsA h' tk' TA hWA hwA hapA hneA hiA F' N' hmxA; (try dsimp only); (try k_sweep); (try k_fold))
  k_with "M reversed" => ((with_reducible show wpAny _ _ (call (Value.type _) [Value.ref _]) _ _ _); k_dflt (refine' krv_reversed ?F ?N ?l ?_; (case F => k_asm); (case N => k_asm); (case l => exact News.isList (by k_asm) (by k_mem))); intro D' h' F' N' l1; (try k_lt l1); (try k_sweep))
  k_with "M bits" => (refine call_int_bit_length ?_; rw [hn])
  walk_at "MINE enter"
  k_steps
  rename_i QD hq2 lq hq3
  have hofs : ∀ p ∈ ((QD, listOf #[] 0) :: (AD, listOf vsA.toArray 0) :: (TA ++ (T2 ++ news)) : List (Addr × Obj)), p.1 ≠ D' := by k_all
  k_dflt (refine' iter_revUnr (ax := AD) (I := D') (lo := listOf vsA.toArray 0) (vs := vsA) (n := 0) ?hh ?F ?N (offI_of hofs) ?hm rfl rfl ?_)
  case hh => rfl
  case F => exact F'
  case N => exact N'
  case hm => k_mem
  refine rev_inv2 (DpJ n b (digs n K a) QD AD vsA (TA ++ (T2 ++ news))) ?start ?turn ?done
  case start => exact ⟨[], (digs n K a).reverse, [], [], _, 0, DpSt.start, hiA.reverse, .nil, rfl, fun _ _ _ _ => rfl, rfl⟩
  case turn =>
    intro v r m1 nx it hh tk1 hJ F1 N1
    obtain ⟨dn, rs, qs, qv, tr, cq, S, hrem, hqv, hr, hm1, rfl⟩ := hJ
    cases hrem with
    | @cons d td r' rs' hrem' =>
    obtain ⟨S', er, x0, x1⟩ := S.turn hb hds
    have em := canon3 hr hm1
    rw [em] at F1
    have sz : Sz (val n dn.reverse % b) := .of_nn (Int.emod_nonneg _ (by omega)) (Int.lt_trans (Int.emod_lt_of_pos _ hb) hbu) (by omega)
    k_with_none
    k_with "M binaryOp LShift int int" => (with_reducible refine shl_n sz (by omega) ?_)
    k_with "M call ref" => (walk_at "MINE a"; (case C => exact d2 w _ _ b n _ _ _ x0 x1 h1 hn7 hbl hbu); (k_dflt ((case B => k_asm); (case X => k_asm); (case T => k_asm); (case hk => first | exact rfl | assumption); (case hd => ktr_room); (case hu => ktr_units); k_whole)); intro D9 t19 t29 c9 h' tk' F' N' l1; (try simp only [AllLt, and_true] at l1); (try dsimp only); (try k_sweep); (try k_fold))
    have hqsz : qv.toArray.size ≤ sizeLine := by
      have e1 := hqv.length
      have e2 := S.reach
      rw [digs_length] at e2
      rw [List.size_toArray, e1, show sizeLine = 16777216 from rfl]; omega
    k_with "M append" => (k_dflt (refine' append_K ?k1 ?k2 ?k3 ?_ hqsz; (case k1 => k_asm); (case k2 => k_asm); (case k3 => k_upd)); intro h' F' N'; (try k_sweep))
    k_steps
    simp only [List.push_toArray] at N'
    refine UnrEnd.intro F' N' ((QD, listOf (qv ++ [Value.int ((val n dn.reverse % b * 2 ^ n + d) / b) t19]).toArray (cq + 1)) :: (AD, listOf vsA.toArray 0) :: (TA ++ (T2 ++ news))) ?sub ?off ⟨?lp, dn ++ [d], rs', qs ++ [(val n dn.reverse % b * 2 ^ n + d) / b], _, t29, cq + 1, S', hrem', hqv.append (.cons _ _ .nil), ?er, ?em, rfl⟩
    case sub => repeat (first | exact sub_refl | refine sub_cons ?_)
    case off =>
      intro p hp
      rcases List.mem_cons.mp hp with rfl | hp
      · exact hofs (QD, listOf #[] 0) (.head _)
      · exact hofs p (.tail _ hp)
    case lp => exact .tail _ (.head _)
    case er => rw [← er]; rfl
    case em => intro y h1 h2 h3; simp only [if_neg h1, if_neg h2, if_neg h3]
  case done =>
    intro m1 nx hh tk1 hJ F1 N1
    obtain ⟨dn, rs, qs, qv, tr, cq, S, hrem, hqv, hr, hm1, rfl⟩ := hJ
    cases hrem
    obtain ⟨_, hq, hv⟩ := S.done
    have hva : val n (digs n K a) = a := val_digs n K a ha (i2d_bound h1 ha hK)
    rw [hva] at hq hv
    rw [hv] at hr
    have em := canon3 hr hm1
    rw [em] at F1
    have hqlen : qv.length ≤ 100 := by
      have e1 := hqv.length
      have e2 := S.reach
      rw [digs_length] at e2
      omega
    have ap2' : ApartL T2 ((QD, listOf qv.reverse.toArray cq) :: (AD, listOf vsA.toArray 0) :: (TA ++ news)) := by
      intro q hq p hp
      rcases List.mem_cons.mp hp with rfl | hp
      · exact (Nat.ne_of_lt (kst_ltOf lq.2 q (List.mem_append_right _ (List.mem_append_left _ hq)))).symm
      · rcases List.mem_cons.mp hp with rfl | hp
        · exact (mx_ne hmxA q (List.mem_append_left _ hq)).symm
        · rcases List.mem_append.mp hp with hp | hp
          · exact (hapA p hp q (List.mem_append_left _ hq)).symm
          · exact ap2 q hq p hp
    have hlr : qs.reverse.length ≤ 100 := by
      have e1 := hqv.length
      rw [List.length_reverse]; omega
    have hrr : ∀ d ∈ qs.reverse, 0 ≤ d ∧ d < 2 ^ n := fun d hd => S.rng d (List.mem_reverse.mp hd)
    rw [← hq] at hret
    k_with_none
    k_with "M reverse" => (k_dflt (refine' kl_reverse (its := qv.toArray) (l := qv.reverse) ?F ?N rfl ?U ?z ?_; (case F => k_asm); (case N => k_asm); (case U => k_upd); (case z => (show qv.length ≤ 16777216; omega))); intro h' F' N'; (try k_sweep))
    k_with "M call ref" => (k_here; k_dflt (refine' d2i w _ T2 hT2 ap2' QD _ qs.reverse cq n _ hn7 hqv.reverse hlr hrr (.head _) hC2 ?B ?F ?X ?N ?T ?hk ?hd ?hu ?_; (case F => k_asm); (case B => k_asm); (case X => k_asm); (case T => k_asm); (case hk => first | exact rfl | assumption); (case hd => ktr_room); (case hu => ktr_units); (case N => exact news_mid N')); intro tq h' tk' TB hWB hwB hapB F' N'; (try dsimp only); (try k_sweep); (try k_fold))
    k_steps
    rename_i D9 h9 F9 N9 l9 kF kN kT kX
    refine hret D9 tq tr h9 _ TA TB hWA hWB hwA hwB ?_ ?_ kF ?_ (mx_le_of ?_)
    · intro q hq p hp
      rcases List.mem_append.mp hp with hp | hp
      · exact (hapB p hp q (.tail _ (.tail _ (List.mem_append_left _ hq)))).symm
      · exact hapA q hq p (List.mem_append_right _ hp)
    · exact hapB.sub fun p hp => .tail _ (.tail _ (List.mem_append_right _ hp))
    · intro p hp
      refine kN p ?_
      simp only [List.mem_append, List.mem_cons] at hp ⊢
      rcases hp with h | h | h | h <;> simp [h]
    · intro p hp
      refine l9 p ?_
      simp only [List.mem_append, List.mem_cons] at hp ⊢
      rcases hp with h | h | h <;> simp [h]
end

section
open PySem PySem.Spec PySem.Calls PySem.W PyProof.Rows
set_option maxRecDepth 100000

theorem fill7 : ∀ (w : World), hd.heap_39 w.params = hd.heap_39 w.params ∧ PySem.Challenge.rw_tx0024_01.prog = PySem.Challenge.rw_tx0024_01.prog := by
  k_fill
  intro w; exact ⟨rfl, rfl⟩

local macro_rules | `(tactic| walk_at "call ref") => `(tactic| k_extra "M call ref")

local macro_rules | `(tactic| walk_at "compareOp Eq int int") => `(tactic| k_extra "M compareOp Eq int int")
local macro_rules | `(tactic| walk_at "MINE enter") => `(tactic| (refine wpAny_call ?_; k_dflt ktr_enter))

/-- a call that hands back two ints, the makers' tables in the ledger -/
def DivC (w : World) (f : Addr) (news T1 T2 : List (Addr × Obj)) (args : List Value) (x y : Int) (k : Nat) : Prop :=
  ∀ (p : Program) (loose : List Str) (mean : ExcName → Option Value) (mg mb : Str → Option Value) (dp un : Nat) (gd : Option (List Code)) (cn : Str) (cs : Scope) (fa : Addr) (ccd : Value) (cl : List (Str × Addr)) (outer : List Env) (A₀ : Around) (base h₀ : Heap) (L : Addr) (m : Str → Option Value) (s : Shared) (Q E : Value → Shared → Prop),
    CodeHd base 34 30 → CodeHd base 41 37 → Below A₀ base outer h₀ → Fr h₀ L s.heap m → (hd.heap_39 w.params).In h₀ → News h₀ L s.heap (T1 ++ (T2 ++ news)) → Top p loose mean mg mb h₀ → cs.kind = .function →
    dp + k < recursionLimit → un + 8 * k < cLine →
    (∀ D t1 t2 h' tk T1' T2', W30 T1' → W37 T2' → (W30 T1 → T1' = T1) → (W37 T2 → T2' = T2) → ApartL T1' (T2' ++ news) → ApartL T2' news → Fr h₀ L h' m → News h₀ L h' ((D, tup2 x t1 y t2 0) :: (T1' ++ (T2' ++ news))) → @LE.le Nat _ (mx (T1' ++ (T2' ++ news))) D → Q (.ref D) { s with heap := h', toks := tk }) →
    wpAny (model PR w) (ktrTop dp un gd cn cs L fa ccd cl outer) (call (.ref f) args) Q E s
theorem DivC.use {w : World} {f : Addr} {news T1 T2 : List (Addr × Obj)} {args : List Value} {x y : Int} {k : Nat} (C : DivC w f news T1 T2 args x y k)
    {p : Program} {loose : List Str} {mean : ExcName → Option Value} {mg mb : Str → Option Value} {dp un : Nat} {gd : Option (List Code)} {cn : Str} {cs : Scope} {fa : Addr} {ccd : Value} {cl : List (Str × Addr)} {outer : List Env} {A₀ : Around} {base h₀ : Heap} {L : Addr} {m : Str → Option Value} {s : Shared} {Q E : Value → Shared → Prop}
    (hC1 : CodeHd base 34 30) (hC2 : CodeHd base 41 37) (B : Below A₀ base outer h₀) (F : Fr h₀ L s.heap m) (X : (hd.heap_39 w.params).In h₀) (N : News h₀ L s.heap (T1 ++ (T2 ++ news))) (T : Top p loose mean mg mb h₀) (hk : cs.kind = .function)
    (hd : dp + k < recursionLimit) (hu : un + 8 * k < cLine)
    (hret : ∀ D t1 t2 h' tk T1' T2', W30 T1' → W37 T2' → (W30 T1 → T1' = T1) → (W37 T2 → T2' = T2) → ApartL T1' (T2' ++ news) → ApartL T2' news → Fr h₀ L h' m → News h₀ L h' ((D, tup2 x t1 y t2 0) :: (T1' ++ (T2' ++ news))) → @LE.le Nat _ (mx (T1' ++ (T2' ++ news))) D → Q (.ref D) { s with heap := h', toks := tk }) :
    wpAny (model PR w) (ktrTop dp un gd cn cs L fa ccd cl outer) (call (.ref f) args) Q E s := C p loose mean mg mb dp un gd cn cs fa ccd cl outer A₀ base h₀ L m s Q E hC1 hC2 B F X N T hk hd hu hret

local macro_rules | `(tactic| walk_at "MINE p") => `(tactic| (k_here; k_dflt (refine' DivC.use ?C ?hC1 ?hC2 ?B ?F ?X ?N ?T ?hk ?hd ?hu ?_)))
local macro_rules | `(tactic| walk_at "MINE q") => `(tactic| (k_dflt ((case hC1 => assumption); (case hC2 => assumption); (case N => k_asm); (case F => k_asm); (case B => k_asm); (case X => k_asm); (case T => k_asm); (case hk => first | exact rfl | assumption); (case hd => ktr_room); (case hu => ktr_units); k_whole)))

theorem dpC (w : World) (news T1 T2 : List (Addr × Obj)) (hT1 : TabSt 30 32 4 q30 T1) (hT2 : TabSt 37 47 4 q37 T2) (ap1 : ApartL T1 (T2 ++ news)) (ap2 : ApartL T2 news) (a b : Int) (ta tb : Tok) (ha : 0 ≤ a) (hb : 0 < b) (hf : Fit a b) :
    DivC w 49 news T1 T2 [.int a ta, .int b tb] (a / b) (a % b) 104 := by
  intro p loose mean mg mb dp un gd cn cs fa ccd cl outer A₀ base h₀ L m s Q E hC1 hC2 B F X N T hk hd hu hret
  exact Mine.dp w news T1 T2 hT1 hT2 ap1 ap2 a b _ _ ta tb ha hb rfl hf.small rfl hf.digits hC1 hC2 B F X N T hk hd hu hret

set_option maxHeartbeats 1000000 in
theorem id_pos (w : World) (news T1 T2 : List (Addr × Obj)) (hT1 : TabSt 30 32 4 q30 T1) (hT2 : TabSt 37 47 4 q37 T2) (ap1 : ApartL T1 (T2 ++ news)) (ap2 : ApartL T2 news) (a b : Int) (ta tb : Tok) (ha : 0 ≤ a) (hb : 0 < b) (hf : Fit a b) :
    DivC w 56 news T1 T2 [.int a ta, .int b tb] (a / b) (a % b) 105 := by
  intro p loose mean mg mb dp un gd cn cs fa ccd cl outer A₀ base h₀ L m s Q E hC1 hC2 B F X N T hk hd hu hret
  have hb0 : ¬ b = 0 := by omega
  have hb1 : ¬ b < 0 := by omega
  have ha1 : ¬ a < 0 := by omega
  k_with_none
  k_with "M compareOp Eq int int" => (with_reducible refine eq_no hb0 ?_)
  k_with "M call ref" => (walk_at "MINE p"; (case C => exact dpC w news T1 T2 hT1 hT2 ap1 ap2 a b _ _ ha hb hf); walk_at "MINE q"; intro D9 t19 t29 h' tk' TA TB w1 w2 e1 e2 a1 a2 F' N' l9; (try dsimp only); (try k_sweep); (try k_fold))
  walk_at "MINE enter"
  k_steps
  rename_i kF kN kT kX
  exact hret _ _ _ _ _ TA TB w1 w2 e1 e2 a1 a2 kF kN l9

set_option maxHeartbeats 1000000 in
theorem id_neg (w : World) (news T1 T2 : List (Addr × Obj)) (hT1 : TabSt 30 32 4 q30 T1) (hT2 : TabSt 37 47 4 q37 T2) (ap1 : ApartL T1 (T2 ++ news)) (ap2 : ApartL T2 news) (a b : Int) (ta tb : Tok) (ha : a < 0) (hb : 0 < b) (hf : Fit a b) :
    DivC w 56 news T1 T2 [.int a ta, .int b tb] (a / b) (a % b) 106 := by
  intro p loose mean mg mb dp un gd cn cs fa ccd cl outer A₀ base h₀ L m s Q E hC1 hC2 B F X N T hk hd hu hret
  have hb0 : ¬ b = 0 := by omega
  have hb1 : ¬ b < 0 := by omega
  have hn0 : 0 ≤ Builtin.bitNot a := by unfold Builtin.bitNot; omega
  have hfn : Fit (Builtin.bitNot a) b := ⟨hf.small, Nat.le_trans (bits_not ha) hf.few⟩
  obtain ⟨e1, e2⟩ := not_div (a := a) hb
  rw [← e1, ← e2] at hret
  k_with_none
  k_with "M compareOp Eq int int" => (with_reducible refine eq_no hb0 ?_)
  k_with "M call ref" => (walk_at "MINE p"; (case C => exact id_pos w news T1 T2 hT1 hT2 ap1 ap2 (Builtin.bitNot a) b _ _ hn0 hb hfn); walk_at "MINE q"; intro D9 t19 t29 h' tk' TA TB w1 w2 e1 e2 a1 a2 F' N' l9; (try dsimp only); (try k_sweep); (try k_fold))
  walk_at "MINE enter"
  k_steps
  rename_i D8 h8 F8 N8 l8 kF kN kT kX
  exact hret D8 _ _ h8 _ TA TB w1 w2 e1 e2 a1 a2 kF (News.subs kN (.head _) (sub_cons (sub_cons sub_refl))) (mx_le_of (kst_ltOf l8.2))

theorem id_any (w : World) (news T1 T2 : List (Addr × Obj)) (hT1 : TabSt 30 32 4 q30 T1) (hT2 : TabSt 37 47 4 q37 T2) (ap1 : ApartL T1 (T2 ++ news)) (ap2 : ApartL T2 news) (a b : Int) (ta tb : Tok) (hb : 0 < b) (hf : Fit a b) :
    DivC w 56 news T1 T2 [.int a ta, .int b tb] (a / b) (a % b) 106 := by
  by_cases ha : a < 0
  · exact id_neg w news T1 T2 hT1 hT2 ap1 ap2 a b ta tb ha hb hf
  · intro p loose mean mg mb dp un gd cn cs fa ccd cl outer A₀ base h₀ L m s Q E hC1 hC2 B F X N T hk hd hu hret
    exact id_pos w news T1 T2 hT1 hT2 ap1 ap2 a b ta tb (by omega) hb hf p loose mean mg mb dp un gd cn cs fa ccd cl outer A₀ base h₀ L m s Q E hC1 hC2 B F X N T hk (by omega) (by omega) hret

set_option maxHeartbeats 1000000 in
theorem id_low (w : World) (news T1 T2 : List (Addr × Obj)) (hT1 : TabSt 30 32 4 q30 T1) (hT2 : TabSt 37 47 4 q37 T2) (ap1 : ApartL T1 (T2 ++ news)) (ap2 : ApartL T2 news) (a b : Int) (ta tb : Tok) (hb : b < 0) (hf : Fit a b) :
    DivC w 56 news T1 T2 [.int a ta, .int b tb] (a.fdiv b) (a.fmod b) 107 := by
  intro p loose mean mg mb dp un gd cn cs fa ccd cl outer A₀ base h₀ L m s Q E hC1 hC2 B F X N T hk hd hu hret
  have hb0 : ¬ b = 0 := by omega
  have hfn : Fit (-a) (-b) := ⟨by rw [bits_neg]; exact hf.small, by rw [bits_neg, bits_neg]; exact hf.few⟩
  obtain ⟨e1, e2⟩ := neg_div (a := a) hb
  rw [← e1, ← e2] at hret
  k_with_none
  k_with "M compareOp Eq int int" => (with_reducible refine eq_no hb0 ?_)
  k_with "M call ref" => (walk_at "MINE p"; (case C => exact id_any w news T1 T2 hT1 hT2 ap1 ap2 (-a) (-b) _ _ (by omega) hfn); walk_at "MINE q"; intro D9 t19 t29 h' tk' TA TB w1 w2 e1 e2 a1 a2 F' N' l9; (try dsimp only); (try k_sweep); (try k_fold))
  walk_at "MINE enter"
  k_steps
  rename_i D8 h8 F8 N8 l8 kF kN kT kX
  exact hret D8 _ _ h8 _ TA TB w1 w2 e1 e2 a1 a2 kF (News.subs kN (.head _) (sub_cons (sub_cons sub_refl))) (mx_le_of (kst_ltOf l8.2))
end

section
open PySem PySem.Spec PySem.Calls PySem.W PyProof.Rows
set_option maxRecDepth 100000


/-- the walk stops here: the value has been handed back -/
def Handed (P : Prop) : Prop := P

section
variable {prog : Program} {w : World} {A : Around} {s : Shared} {h₀ : Heap} {L : Addr} {m : Str → Option Value} {news : List (Addr × Obj)} {K : Frag} {p : Program} {loose : List Str} {mean : ExcName → Option Value} {mg mb : Str → Option Value} {env : Env}
  {R : Result → Shared → Prop} {name qual : Str} {params : Arguments} {body : List Stmt} {scope : Scope} {dV kV doc pm cdv ct oc : Value} {an od : Option Addr} {osl : Array (Option Value)} {f : Addr} {args : Args} {binds : List (Str × Value)}

/-- a def entered with the caller's frame kept in the ledger -/
theorem code_defE (F : Fr h₀ L s.heap m) (X₀ : K.In h₀) (N : News h₀ L s.heap news) (T : Top p loose mean mg mb h₀)
    (ho : K.lookup f = some ⟨oc, od, .func (fnOf name qual params body scope dV kV doc pm an cdv ct), osl⟩) (hcd : codeIn K cdv qual = true) (hroom : A.depth < recursionLimit)
    (hbind : BindsTo s (fnOf name qual params body scope dV kV doc pm an cdv ct) args binds) (hloc : ∀ y ∈ binds, scope.names.lookup y.1 = some .local)
    (h : ∀ oL es ep h₁, oL.data = .dict es ep → (∀ (h : Heap) sl, h.get? L = some { oL with slots := sl } → h.Ns L m) → Fr h₀ s.heap.objs.size h₁ (fun y => binds.reverse.lookup y) → News h₀ s.heap.objs.size h₁ (news ++ [(L, oL)]) → (∀ p ∈ news ++ [(L, oL)], p.1 < s.heap.objs.size) →
      wpAny (model prog w) (A.deeper (envOf qual scope s.heap.objs.size f cdv)) (execs body (envOf qual scope s.heap.objs.size f cdv))
        (fun fl s' => Handed (R (.ok (.ret (match fl with | .ret v => v | _ => .none))) s'))
        (fun e s' => wpAny (model prog w) (A.deeper (envOf qual scope s.heap.objs.size f cdv)) (leaving (envOf qual scope s.heap.objs.size f cdv) e) (fun _ s'' => R (.error e) s'') (fun e' s'' => R (.error e') s'') s')
        { s with heap := h₁, toks := s.toks + binds.length })
    (hco : scope.isCoroutine = false := by rfl) (hgen : scope.isGenerator = false := by rfl) (hk : scope.kind = .function := by rfl)
    (hcell : ∀ x ∈ scope.names, x.2 ≠ .cell := by decide) : codeAny (model prog w) A (.call (.ref f) args) R s := by
  have X := X₀.keeps F.keep
  obtain ⟨oL, es, ep, hL, hLd, hLk, hLf⟩ := F.ns
  have hLt := Heap.lt_size hL
  refine codeAny_call_def (fd := fnOf name qual params body scope dV kV doc pm an cdv ct) (body := body) (binds := binds) hroom (X _ _ ho) rfl (T.nolimit.keeps F.keep) (codeRec_of X hcd) rfl hbind hcell hloc (fun h₁ hns hk₁ => ?_) hco hgen hk
  have up : ∀ b o, s.heap.get? b = some o → h₁.get? b = some o := fun b o e => hk₁ b o e
  refine h oL es ep h₁ hLd (fun h' sl e => ⟨_, es, ep, e, hLd, hLk, hLf⟩) ⟨hns, fun b o e => up b o (F.keep b o e), Nat.le_trans F.above (Nat.le_of_lt hLt)⟩ (fun p hp => ?_) (fun p hp => ?_)
  · rcases List.mem_append.mp hp with hp | hp
    · obtain ⟨h1, h2, h3⟩ := N p hp
      exact ⟨up _ _ h1, Nat.ne_of_lt (Heap.lt_size h1), h3⟩
    · rcases List.mem_cons.mp hp with rfl | hp
      · exact ⟨up _ _ hL, Nat.ne_of_lt hLt, Heap.get?_none_of_le F.above⟩
      · exact nomatch hp
  · rcases List.mem_append.mp hp with hp | hp
    · exact Heap.lt_size (N p hp).1
    · rcases List.mem_cons.mp hp with rfl | hp
      · exact hLt
      · exact nomatch hp
end

/-- the record of an exception and of its traceback -/
def excObj (X : String) (c : Option Addr) (t tb cx : Value) (sl : Array (Option Value)) : Obj := { cls := .type X, dict := c, data := .fields #[t, tb, cx, .none, .bool false, .none], slots := sl }

section
variable {M : Model} {A : Around} {E : Value → Shared → Prop} {s : Shared} {h₀ h : Heap} {L L' e : Addr} {m : Str → Option Value} {news : List (Addr × Obj)} {env cenv : Env} {oL : Obj} {X : String} {t cx : Value} {od : Option Addr} {osl : Array (Option Value)} {Q : Unit → Shared → Prop}

/-- the first entry of a new exception's traceback, the frame below in the ledger's end -/
theorem note_first (hfr : A.frames = some [env, cenv]) (hf : env.frame = some L') (hcf : cenv.frame = some L) (hk : env.scope.kind = .function) (hck : cenv.scope.kind = .function)
    (hLd : ∃ es ep, oL.data = .dict es ep) (F : Fr h₀ L' s.heap m) (hLL : L ≠ L') (he0 : h₀.get? e = none) (heL : e ≠ L') (he : s.heap.get? e = some (excObj X od t .none cx osl)) (N : News h₀ L' s.heap (news ++ [(L, oL)])) (hne : ∀ p ∈ news, p.1 ≠ L ∧ p.1 ≠ e) (hLe : L ≠ e)
    (k : ∀ h' T ts sl, ts[3]? = some (rawInt L') → (∀ p ∈ news ++ [(L, oL)], @LT.lt Nat _ p.1 T) → T ≠ L' → @LT.lt Nat _ e T → Fr h₀ L' h' m → News h₀ L' h' ((e, excObj X od t (.ref T) cx osl) :: (T, { cls := .type "traceback", dict := none, data := .fields ts }) :: (news ++ [(L, { oL with slots := sl })])) → Q () { s with heap := h' }) :
    wpAny M A (noteFrame (.ref e) env) Q E s := by
  obtain ⟨oL', es, ep, hL', hLd', hLk', hLf'⟩ := F.ns
  have hLg := (N (L, oL) (List.mem_append_right _ (.head _)))
  have hL0 : h₀.get? L' = none := Heap.get?_none_of_le F.above
  have kind : ∀ v : Env, v.scope.kind = .function → v.scope.kind ≠ .module := fun v q => by rw [q]; decide
  have hl : s.heap.FunFrames h₀ [env, cenv] := by
    refine ⟨kind _ hk, ⟨L', oL', hf, hL0, hL', fun vs q => by rw [hLd'] at q; cases q⟩, kind _ hck, ⟨L, oL, hcf, hLg.2.2, hLg.1, fun vs q => ?_⟩, trivial⟩
    obtain ⟨es, ep, q'⟩ := hLd; rw [q'] at q; cases q
  have hfs : [env, cenv].filterMap (·.frame) = [L', L] := by simp only [List.filterMap_cons, hf, hcf, List.filterMap_nil]
  unfold noteFrame
  simp only [hf]
  refine wpAny_bind (wpAny_field he rfl (x := .none) rfl ?_)
  rw [if_neg (by decide)]
  refine wpAny_bind (wpAny_frameOf_fun hfr hl hf fun h₁ hs₁ => ?_)
  rw [hfs] at hs₁
  refine wpAny_bind (wpAny_entryPlaceOf fun pl hpl => ?_)
  unfold EntryCells.newEntry newFields
  refine wpAny_bind (wpAny_newObj_type ?_ (hpl.sizeOk5 _ _ _ _ _))
  have hem : e ∉ [L', L] := by simp only [List.mem_cons, List.not_mem_nil, or_false, not_or]; exact ⟨heL, Ne.symm hLe⟩
  have he₁ : h₁.get? e = some (excObj X od t .none cx osl) := (hs₁.2.1 e hem).trans he
  have he₂ := Heap.get?_push_of_some (h := h₁) { cls := .type "traceback", dict := none, data := .fields ([Value.none, .ref L', .none, rawInt L', .none] ++ (if pl.isEmpty then List.replicate 6 Value.none else pl)).toArray } he₁
  refine wpAny_setField he₂ rfl (show 1 < 6 by decide) ?_
  have hTe : h₁.objs.size ≠ e := Nat.ne_of_gt (Heap.lt_size he₁)
  have keep : ∀ b o, b ≠ e → h₁.get? b = some o →
      ((h₁.push { cls := .type "traceback", dict := none, data := .fields ([Value.none, .ref L', .none, rawInt L', .none] ++ (if pl.isEmpty then List.replicate 6 Value.none else pl)).toArray }).update e (Obj.mapFields (·.setIfInBounds 1 (Value.ref h₁.objs.size)))).get? b = some o :=
    fun b o hbe hb => by
      rw [Heap.get?_update_other _ _ (Ne.symm hbe)]
      exact Heap.get?_push_of_some _ hb
  have he₃ := Heap.get?_update_self (Obj.mapFields (·.setIfInBounds 1 (Value.ref h₁.objs.size))) he₂ rfl
  have hT₃ := (Heap.get?_update_other (h₁.push { cls := .type "traceback", dict := none, data := .fields ([Value.none, .ref L', .none, rawInt L', .none] ++ (if pl.isEmpty then List.replicate 6 Value.none else pl)).toArray })
    (Obj.mapFields (·.setIfInBounds 1 (Value.ref h₁.objs.size))) (Ne.symm hTe)).trans (Heap.get?_push_size h₁ rfl)
  obtain ⟨sl1, g1⟩ := hs₁.2.2 L' _ hL'
  obtain ⟨sl2, g2⟩ := hs₁.2.2 L _ hLg.1
  have hout : ∀ b o, h₀.get? b = some o → b ∉ [L', L] := fun b o q => by
    simp only [List.mem_cons, List.not_mem_nil, or_false, not_or]
    exact ⟨fun z => by (rw [z, hL0] at q; cases q), fun z => by (rw [z, hLg.2.2] at q; cases q)⟩
  have hlt : ∀ b o, s.heap.get? b = some o → b < h₁.objs.size := fun b o q => by rw [hs₁.1]; exact Heap.lt_size q
  refine k _ h₁.objs.size ([Value.none, .ref L', .none, rawInt L', .none] ++ (if pl.isEmpty then List.replicate 6 Value.none else pl)).toArray sl2 (by first | (simp; done) | (rcases hpl with rfl | ⟨_, _, _, _, _, _, _, rfl⟩ <;> simp)) (fun p hp => hlt _ _ (N p hp).1) (Nat.ne_of_gt (hlt _ _ hL')) (Nat.lt_of_le_of_ne (Nat.le_of_lt (Heap.lt_size he₁)) (Ne.symm hTe)) ⟨⟨_, es, ep, keep L' _ (Ne.symm heL) g1, hLd', hLk', hLf'⟩, fun b o q => keep b o (fun z => by rw [z, he0] at q; cases q) ((hs₁.2.1 b (hout b o q)).trans (F.keep b o q)), F.above⟩ ?_
  intro p hp
  rcases List.mem_cons.mp hp with rfl | hp
  · exact ⟨he₃, heL, he0⟩
  rcases List.mem_cons.mp hp with rfl | hp
  · refine ⟨hT₃, Nat.ne_of_gt (hlt _ _ hL'), ?_⟩
    cases q : h₀.get? h₁.objs.size with
    | none => rfl
    | some o => exact absurd (hlt _ _ (F.keep _ _ q)) (Nat.lt_irrefl _)
  rcases List.mem_append.mp hp with hp | hp
  · obtain ⟨n1, n2, n3⟩ := N p (List.mem_append_left _ hp)
    obtain ⟨q1, q2⟩ := hne p hp
    refine ⟨keep _ _ q2 ((hs₁.2.1 _ ?_).trans n1), n2, n3⟩
    simp only [List.mem_cons, List.not_mem_nil, or_false, not_or]
    exact ⟨n2, q1⟩
  · rcases List.mem_cons.mp hp with rfl | hp
    · exact ⟨keep _ _ hLe g2, hLL, hLg.2.2⟩
    · exact nomatch hp

/-- the frame is noted already -/
theorem note_again {T : Addr} {ts : Array Value} {oT oe : Obj} {vs : Array Value} (hf : env.frame = some L') (he : s.heap.get? e = some oe) (hd : oe.data = .fields vs) (h1 : vs[1]? = some (.ref T)) (hT : s.heap.get? T = some oT) (hTd : oT.data = .fields ts) (h3 : ts[3]? = some (rawInt L')) (h : Q () s) :
    wpAny M A (noteFrame (.ref e) env) Q E s := by
  unfold noteFrame
  simp only [hf]
  refine wpAny_bind (wpAny_field he hd h1 ?_)
  rw [if_pos (show (Value.ref T != Value.none) = true from by simp)]
  refine wpAny_bind (wpAny_field hT hTd h3 ?_)
  rw [if_pos (show (rawInt L' == rawInt L') = true from by simp)]
  exact wpAny_pure h

/-- the mark of flight is set or taken away -/
theorem flight {T : Addr} {ts : Array Value} {vs : Array Value} {oT oe : Obj} {fl : Option Addr} (F : Fr h₀ L' s.heap m) (N : News h₀ L' s.heap ((e, oe) :: (T, oT) :: news)) (hd : oe.data = .fields vs) (h1 : vs[1]? = some (.ref T)) (hTe : T ≠ e) (hTd : oT.data = .fields ts) (h3 : 3 < ts.size) (hne : ∀ p ∈ news, p.1 ≠ T)
    (k : ∀ h', Fr h₀ L' h' m → News h₀ L' h' ((e, oe) :: (T, oT.mapFields (·.setIfInBounds 3 (fl.elim .none fun f => rawInt f))) :: news) → Q () { s with heap := h' }) :
    wpAny M A (setFlight (.ref e) fl) Q E s := by
  obtain ⟨he, heL, he0⟩ := N (e, oe) (.head _)
  obtain ⟨hT, hTL, hT0⟩ := N (T, oT) (.tail _ (.head _))
  obtain ⟨oL', es, ep, hL', hLd', hLk', hLf'⟩ := F.ns
  unfold setFlight
  refine wpAny_bind (wpAny_field he hd h1 ?_)
  rw [if_pos (show (Value.ref T != Value.none) = true from by simp)]
  have other : ∀ b o, b ≠ T → s.heap.get? b = some o → (s.heap.update T (Obj.mapFields (·.setIfInBounds 3 (fl.elim .none fun f => rawInt f)))).get? b = some o := fun b o hb q => (Heap.get?_update_other _ _ (Ne.symm hb)).trans q
  refine wpAny_setField hT hTd h3 (k _ ⟨⟨oL', es, ep, other _ _ (Ne.symm hTL) hL', hLd', hLk', hLf'⟩, fun b o q => other _ _ (fun z => by rw [z, hT0] at q; cases q) (F.keep b o q), F.above⟩ ?_)
  intro p hp
  rcases List.mem_cons.mp hp with rfl | hp
  · exact ⟨other _ _ (Ne.symm hTe) he, heL, he0⟩
  rcases List.mem_cons.mp hp with rfl | hp
  · exact ⟨Heap.get?_update_self _ hT (Obj.isFreed_of_fields (Obj.data_mapFields hTd _)), hTL, hT0⟩
  obtain ⟨n1, n2, n3⟩ := N p (.tail _ (.tail _ hp))
  exact ⟨other _ _ (hne p hp) n1, n2, n3⟩

/-- an exception is passed on -/
theorem pass_on {α : Type} {what : String} {T : Addr} {oe : Obj} {vs : Array Value} {Q : α → Shared → Prop} (hf : env.frame = some L') (he : s.heap.get? e = some oe) (hd : oe.data = .fields vs) (h1 : vs[1]? = some (.ref T))
    (k : wpAny M A (setFlight (.ref e) (some L')) (fun _ s' => E (.ref e) s') E s) : wpAny M A (PySem.passOn (α := α) what (.ref e) env) Q E s := by
  unfold PySem.passOn
  refine wpAny_bind (wpAny_field he hd h1 ?_)
  rw [if_neg (by simp)]
  rw [hf]
  exact wpAny_bind (wpAny_mono k (fun _ _ x => wpAny_throw x) fun _ _ x => x)
end

section
variable {prog : Program} {w : World} {A : Around} {E : Value → Shared → Prop} {s : Shared}
theorem entry_unchain : entryFor table "proto.unchain" = some Builtin.«proto.unchain» := entryFor_of_tree (by kernel_rfl)

/-- an exception raised while another is being handled -/
theorem raiseNew_under {α : Type} {e e1 : Addr} {oe o1 : Obj} {vs vs1 : Array Value} {Q : α → Shared → Prop} (hh : A.handled = some (.ref e1)) (hne : e1 ≠ e) (he1 : s.heap.get? e1 = some o1) (hd1 : o1.data = .fields vs1) (hx : vs1[2]? = some .none)
    (he : s.heap.get? e = some oe) (hd : oe.data = .fields vs) (hsz : 2 < vs.size)
    (h : E (.ref e) { s with heap := s.heap.update e (Obj.mapFields (·.setIfInBounds 2 (.ref e1))) }) : wpAny (model prog w) A (raiseNew (α := α) (.ref e)) Q E s := by
  unfold raiseNew
  refine wpAny_bind (wpAny_handled ?_)
  rw [hh]
  dsimp only
  have hne' : (Value.ref e1 != Value.ref e) = true := by simp [hne]
  rw [if_pos hne']
  refine wpAny_bind (wpAny_holding (wpAny_runValue (codeAny_builtin entry_unchain ?_)))
  unfold Builtin.«proto.unchain»
  dsimp only
  refine wpAny_bind (wpAny_field he1 hd1 hx ?_)
  rw [if_pos (by decide)]
  refine wpAny_pure ?_
  exact wpAny_bind (wpAny_setField (x := .ref e1) he hd hsz (wpAny_throw h))

theorem raise_under {α : Type} {e1 : Addr} {o1 : Obj} {vs1 : Array Value} {cls msg : String} {Q : α → Shared → Prop} (hp : PlainExc cls) (hh : A.handled = some (.ref e1)) (he1 : s.heap.get? e1 = some o1) (hd1 : o1.data = .fields vs1) (hx : vs1[2]? = some .none)
    (h : ∀ h' tk e t, (∀ b o, s.heap.get? b = some o → h'.get? b = some o) → s.heap.get? e = none → h'.get? e = some (excObj cls none t .none (.ref e1) #[]) → E (.ref e) { s with heap := h', toks := tk }) :
    wpAny (model prog w) A (raiseErrorWords cls msg : Sem α) Q E s := by
  unfold raiseErrorWords
  refine wpAny_bind (wpAny_mkText (wpAny_bind ?_))
  unfold newExc newTuple
  refine wpAny_bind (wpAny_newObj_type ?_)
  refine wpAny_bind (m := firstArgMember _ _) (wpAny_of_eq (a := Value.none) (by simp only [firstArgMember, hp.first]; rfl) ?_)
  rw [hp.own]
  refine wpAny_newObj_type ?_
  have hlt := Heap.lt_size he1
  refine raiseNew_under hh ?_ (Heap.get?_push_of_some _ (Heap.get?_push_of_some _ he1)) hd1 hx (Heap.get?_push_size _ rfl) rfl (show 2 < 6 by decide) ?_
  · intro z
    have z' : e1 = s.heap.objs.size + 1 := by rw [z]; exact Heap.size_push _ _
    exact absurd hlt (by rw [z']; exact Nat.not_lt_of_le (Nat.le_succ _))
  · refine h _ _ _ (.ref s.heap.objs.size) (fun b o hb => ?_) (Heap.get?_none_of_le (by simp)) (Heap.get?_update_self _ (Heap.get?_push_size _ rfl) rfl)
    have hb' := Heap.lt_size hb
    exact (Heap.get?_update_other _ _ (by rw [show ∀ (h : Heap) o, (h.push o).objs.size = h.objs.size + 1 from fun h o => Heap.size_push _ _]; exact Nat.ne_of_gt (Nat.lt_succ_of_lt hb'))).trans (Heap.get?_push_of_some _ (Heap.get?_push_of_some _ hb))

theorem item_under {value slice : PySem.Expr} {l e1 : Addr} {items : Array Value} {k : Int} {u : Tok} {o1 : Obj} {vs1 : Array Value} {Q : Value → Shared → Prop} (hh : A.handled = some (.ref e1)) (he1 : s.heap.get? e1 = some o1) (hd1 : o1.data = .fields vs1) (hx : vs1[2]? = some .none)
    (hl : s.heap.IsList l items) (hout : (items.size : Int) ≤ k) (hhi : k < 2 ^ 63)
    (hE : ∀ h' tk e t, (∀ b o, s.heap.get? b = some o → h'.get? b = some o) → s.heap.get? e = none → h'.get? e = some (excObj "IndexError" none t .none (.ref e1) #[]) → E (.ref e) { s with heap := h', toks := tk })
    (hs : subscripted slice false (.ref l) (.int k u) = operate [.ref l, .int k u] (getItem (.ref l) (.int k u)) := by with_unfolding_all rfl) :
    wpAny (model prog w) A (subscriptTail value slice (.ref l) (.int k u)) Q E s := by
  refine tail_any hl.typeIs slot_list_getitem.lookup ?_ hs
  obtain ⟨o, ho, hc, ne, hd⟩ := id hl
  unfold getItem
  try with_reducible refine wpAny_holding ?_
  first | refine wpAny_bind (wpAny_pure ?_) | skip
  refine wpAny_bind (wpAny_sequenceKey hl.typeIs (by decide) ?_)
  refine wpAny_bind (wpAny_callSpecial?_slot (name := Str.ofString "__getitem__") hl.typeIs slot_list_getitem
    (wpAny_call_entry slot_list_getitem hl.typeIs entry_list_getitem ?_ (args_list_getitem _ _)))
  show wpAny _ _ (Builtin.List.listSubscript? (.int k u) >>= _) _ _ s
  have h0 : (0 : Int) ≤ k := by omega
  refine wpAny_bind (wpAny_listSubscript_int (fitsIndex_both (by omega) hhi) ?_)
  cases k with
  | negSucc j => exact absurd h0 (by have := Int.negSucc_lt_zero j; omega)
  | ofNat j =>
    have hx' : items[j]? = none := Array.getElem?_eq_none (by have : (items.size : Int) ≤ (j : Int) := hout; omega)
    show wpAny _ _ ((seqItemAt l j >>= fun r => pure (r.map (j, ·))) >>= _) _ _ s
    refine wpAny_bind (wpAny_bind (wpAny_seqItemAt ho hd (wpAny_pure ?_)))
    rw [hx']
    first
      | exact wpAny_bind (wpAny_rule (raise_under plainExc_IndexError hh he1 hd1 hx hE))
      | exact wpAny_bind (wpAny_rule (wpAny_bind (raise_under plainExc_IndexError hh he1 hd1 hx hE)))
      | exact wpAny_bind (wpAny_bind (wpAny_rule (raise_under plainExc_IndexError hh he1 hd1 hx hE)))
      | exact wpAny_rule (raise_under plainExc_IndexError hh he1 hd1 hx hE)

theorem caught_L {h₀ : Heap} {L' e T a : Addr} {m : Str → Option Value} {news : List (Addr × Obj)} {name : Str} {scope : Scope} {cd : Value} {K : Frag} {p : Program} {loose : List Str} {mg mb : Str → Option Value} {oT : Obj} {ts : Array Value} {t cx : Value} {od : Option Addr} {osl : Array (Option Value)}
    {b₀ : Stmt} {suite : List Stmt} {pos np : Pos} {rest : List ExceptHandler} {Q : Flow → Shared → Prop}
    (F : Fr h₀ L' s.heap m) (N : News h₀ L' s.heap ((e, excObj "IndexError" od t (.ref T) cx osl) :: (T, oT) :: news)) (hTe : T ≠ e) (hTd : oT.data = .fields ts) (h3 : 3 < ts.size) (hne : ∀ p ∈ news, p.1 ≠ T)
    (X : K.In h₀) (Tp : TopRead p loose mg mb h₀) (ex : nsIn K mainGlobals "IndexError" = some none)
    (k : ∀ h', Fr h₀ L' h' m → News h₀ L' h' news → wpAny (model prog w) (A.mark (some (.ref e))) (execs (b₀ :: suite) (envOf name scope L' a cd)) Q E { s with heap := h' })
    (hk : scope.kind = .function := by rfl) (hx : (envOf name scope L' a cd).kindOf "IndexError" = some .globalImplicit := by rfl)
    (hE : PassesOwnAt (model prog w) (A.mark (some (.ref e))) A (envOf name scope L' a cd) E := by passes_own) :
    wpAny (model prog w) A (handleBy (.ref e) (envOf name scope L' a cd) (.ExceptHandler (some (.Name "IndexError" np)) none (b₀ :: suite) pos :: rest)) Q E s := by
  have he := (N (e, _) (.head _)).1
  refine wpAny_handleBy_builtin (X := "IndexError") (T := "IndexError") (b := true) PySem.F.isExc_IndexError PySem.F.notTuple_IndexError (by rw [isSubtype_type]; kernel_rfl)
    (nameX_B (cl := []) F X Tp ex PyProof.Rows.Boot.«IndexError» (by decide) ⟨rfl, ⟨_, he, rfl⟩, ?_⟩ hk hx)
  rw [if_pos rfl]
  exact flight F N rfl rfl hTe hTd h3 hne fun h' F' N' => wpAny_passesOwnAt hE (k h' F' fun p hp => N' p (.tail _ (.tail _ hp)))
end

/-- an exception has just been made; the ledger is known at the heap before -/
structure Rzd (h₀ : Heap) (L' : Addr) (h' : Heap) (m : Str → Option Value) (news : List (Addr × Obj)) (e : Addr) (cx : Value) (t : Value) (od : Option Addr) (osl : Array (Option Value)) : Prop where
  was : ∃ h, Fr h₀ L' h m ∧ News h₀ L' h news ∧ (∀ b o, h.get? b = some o → h'.get? b = some o) ∧ h.get? e = none
  there : h'.get? e = some (excObj "IndexError" od t .none cx osl)

section
variable {prog : Program} {w : World} {A : Around} {E : Value → Shared → Prop} {s : Shared} {h₀ : Heap} {L L' l : Addr} {m : Str → Option Value} {news : List (Addr × Obj)} {vs : List Value} {ns : List Int} {k : Int} {u : Tok} {n c : Nat} {x : Int} {value slice : PySem.Expr}
theorem item_nat {Q : Value → Shared → Prop} (N : News h₀ L' s.heap news) (hm : (l, listOf vs.toArray c) ∈ news) (hi : IntsAre vs ns) (hx : ns[n]? = some x) (hk : k = (n : Int)) (hz : ns.length < 2 ^ 63) (h : ∀ t, Q (.int x t) s)
    (hs : subscripted slice false (.ref l) (.int k u) = operate [.ref l, .int k u] (getItem (.ref l) (.int k u)) := by with_unfolding_all rfl) :
    wpAny (model prog w) A (subscriptTail value slice (.ref l) (.int k u)) Q E s := by
  subst hk
  have hn : n < ns.length := (List.getElem?_eq_some_iff.mp hx).1
  refine item_anyK (News.isList N hm) hi (by omega) (by omega) (by omega) (fun t => ?_) hs
  rw [Int.toNat_natCast, List.getD_eq_getElem?_getD, hx]
  exact h t
theorem item_none {Q : Value → Shared → Prop} (hA : A.handled = none) (F : Fr h₀ L' s.heap m) (N : News h₀ L' s.heap news) (hm : (l, listOf vs.toArray c) ∈ news) (hi : IntsAre vs ns) (hx : ns[n]? = none) (hk : k = (n : Int)) (hz : k < 2 ^ 63)
    (h : ∀ h' tk e t od osl, Rzd h₀ L' h' m news e .none t od osl → E (.ref e) { s with heap := h', toks := tk })
    (hs : subscripted slice false (.ref l) (.int k u) = operate [.ref l, .int k u] (getItem (.ref l) (.int k u)) := by with_unfolding_all rfl) :
    wpAny (model prog w) A (subscriptTail value slice (.ref l) (.int k u)) Q E s := by
  subst hk
  have hn : ns.length ≤ n := List.getElem?_eq_none_iff.mp hx
  refine item_outK hA (News.isList N hm) (.inr (by rw [List.size_toArray, hi.length]; omega)) (by omega) hz (fun h' tk e xE => ?_) hs
  obtain ⟨ob, t, g1, g2, g3⟩ := xE.there
  obtain ⟨c1, d1, dt, sl⟩ := ob
  obtain rfl : c1 = _ := g2
  obtain rfl : dt = _ := g3
  exact h h' tk e t d1 sl ⟨⟨_, F, N, xE.keeps, xE.new⟩, g1⟩
theorem item_none_in {Q : Value → Shared → Prop} {e1 : Addr} {o1 : Obj} {vs1 : Array Value} (hA : A.handled = some (.ref e1)) (F : Fr h₀ L' s.heap m) (N : News h₀ L' s.heap news) (hm1 : (e1, o1) ∈ news) (hd1 : o1.data = .fields vs1) (hx1 : vs1[2]? = some .none) (hm : (l, listOf vs.toArray c) ∈ news) (hi : IntsAre vs ns) (hx : ns[n]? = none) (hk : k = (n : Int)) (hz : k < 2 ^ 63)
    (h : ∀ h' tk e t od osl, Rzd h₀ L' h' m news e (.ref e1) t od osl → E (.ref e) { s with heap := h', toks := tk })
    (hs : subscripted slice false (.ref l) (.int k u) = operate [.ref l, .int k u] (getItem (.ref l) (.int k u)) := by with_unfolding_all rfl) :
    wpAny (model prog w) A (subscriptTail value slice (.ref l) (.int k u)) Q E s := by
  subst hk
  have hn : ns.length ≤ n := List.getElem?_eq_none_iff.mp hx
  exact item_under hA (N _ hm1).1 hd1 hx1 (News.isList N hm) (by rw [List.size_toArray, hi.length]; omega) hz (fun h' tk e t kp nw g1 => h h' tk e t none #[] ⟨⟨_, F, N, kp, nw⟩, g1⟩) hs

/-- a traceback's record -/
def tbObj (ts : Array Value) : Obj := { cls := .type "traceback", dict := none, data := .fields ts }

theorem note_rz {e : Addr} {cx t : Value} {od : Option Addr} {osl : Array (Option Value)} {env cenv : Env} {oL : Obj} {M : Model} {Q : Unit → Shared → Prop} (R : Rzd h₀ L' s.heap m (news ++ [(L, oL)]) e cx t od osl) (hfr : A.frames = some [env, cenv]) (hf : env.frame = some L') (hcf : cenv.frame = some L) (hk : env.scope.kind = .function) (hck : cenv.scope.kind = .function)
    (hLd : ∃ es ep, oL.data = .dict es ep) (hap : ∀ p ∈ news, p.1 ≠ L)
    (k : ∀ h' T ts sl, ts[3]? = some (rawInt L') → T ≠ e → (∀ p ∈ news ++ [(L, { oL with slots := sl })], p.1 ≠ T ∧ p.1 ≠ e) → Fr h₀ L' h' m → News h₀ L' h' ((e, excObj "IndexError" od t (.ref T) cx osl) :: (T, tbObj ts) :: (news ++ [(L, { oL with slots := sl })])) → Q () { s with heap := h' }) :
    wpAny M A (noteFrame (.ref e) env) Q E s := by
  obtain ⟨⟨h, F, N, kp, nw⟩, he⟩ := R
  have hne : ∀ p ∈ news ++ [(L, oL)], p.1 ≠ e := fun p hp z => by
    have := (N p hp).1
    rw [z, nw] at this; cases this
  have hLp := N (L, oL) (List.mem_append_right _ (.head _))
  obtain ⟨oL', es, ep, hL', r1⟩ := F.ns
  have heL : e ≠ L' := fun z => by rw [← z, nw] at hL'; cases hL'
  have he0 : h₀.get? e = none := by
    cases q : h₀.get? e with
    | none => rfl
    | some o => have := F.keep _ _ q; rw [nw] at this; cases this
  refine note_first hfr hf hcf hk hck hLd ⟨⟨oL', es, ep, kp _ _ hL', r1⟩, fun b o q => kp _ _ (F.keep b o q), F.above⟩ hLp.2.1 he0 heL he (fun p hp => ⟨kp _ _ (N p hp).1, (N p hp).2⟩) (fun p hp => ⟨hap p hp, hne p (List.mem_append_left _ hp)⟩) (hne _ (List.mem_append_right _ (.head _))) fun h' T ts sl a1 a2 a3 a4 F' N' => ?_
  refine k h' T ts sl a1 (Nat.ne_of_gt a4) (fun p hp => ?_) F' N'
  rcases List.mem_append.mp hp with hp | hp
  · exact ⟨Nat.ne_of_lt (a2 p (List.mem_append_left _ hp)), hne p (List.mem_append_left _ hp)⟩
  · rcases List.mem_cons.mp hp with rfl | hp
    · exact ⟨Nat.ne_of_lt (a2 (L, oL) (List.mem_append_right _ (.head _))), hne (L, oL) (List.mem_append_right _ (.head _))⟩
    · exact nomatch hp
end
end

section
open PySem PySem.Spec PySem.Calls PySem.W PyProof.Rows
set_option maxRecDepth 100000

section
variable {prog : Program} {w : World} {A : Around} {E : Value → Shared → Prop} {Q : Flow → Shared → Prop} {s : Shared} {env : Env} {h₀ : Heap} {L D b : Addr} {m : Str → Option Value} {news : List (Addr × Obj)}
/-- a loop whose first test is false or raises -/
theorem while_no {test : PySem.Expr} {body : List Stmt} {pos : Pos} (F : Fr h₀ L s.heap m) (N : News h₀ L s.heap news)
    (turn : ∀ h₁ tk₁, Fr h₀ L h₁ m → News h₀ L h₁ news → wpAny (model prog w) A (isTrue test env (eval test env)) (fun b s₂ => if b = true then wpAny (model prog w) A (execs body env) (fun _ _ => False) E s₂ else Q .next s₂) E { s with heap := h₁, toks := tk₁ })
    (hE : PassesOwn (model prog w) A env E := by passes_own) :
    wpAny (model prog w) A (exec (.While test body [] pos) env) Q E s :=
  While_inv2 (fun _ m' n' => m' = m ∧ n' = news) (n₀ := 0) F N ⟨rfl, rfl⟩ (fun n m₁ news₁ h₁ tk₁ F₁ N₁ hJ => by
    obtain ⟨rfl, rfl⟩ := hJ
    refine wpAny_mono (turn h₁ tk₁ F₁ N₁) (fun b s₂ h => ?_) fun _ _ h => h
    cases b with
    | false => exact h
    | true =>
      simp only [if_true] at h ⊢
      exact wpAny_mono h (fun _ _ x => x.elim) fun _ _ x => x) hE
end
section
variable {prog : Program} {w : World} {A : Around} {E : Value → Shared → Prop} {s : Shared} {h₀ : Heap} {L D b l : Addr} {m : Str → Option Value} {news : List (Addr × Obj)}
theorem updF_at {d : Addr} {o o' : Obj} : ∀ {l : List (Addr × Obj)} {g : Obj → List (Addr × Obj)}, UpdF d o l g → Upd d o o' l (g o')
  | _, _, .head h => .head h
  | _, _, .tail h r => .tail h (updF_at r)
theorem ext_any {a1 a2 : List Value} {n n2 : Nat} {g : Obj → List (Addr × Obj)} {Q : Value → Shared → Prop} (F : Fr h₀ L s.heap m) (N : News h₀ L s.heap news) (hb : (b, listOf a2.toArray n2) ∈ news)
    (U : UpdF D (listOf a1.toArray n) news g) (hz : a1.length + a2.length ≤ 1000000)
    (h : ∀ c h', Fr h₀ L h' m → News h₀ L h' (g (listOf (a1 ++ a2).toArray c)) → Q .none { s with heap := h' }) : wpAny (model prog w) A (call (.builtin "list.extend") [.ref D, .ref b]) Q E s := by
  have h1 : ¬(!a1.toArray.isEmpty && Builtin.List.listTooLong (a1.toArray.size + a2.toArray.size)) = true := by
    rw [List.size_toArray, List.size_toArray]
    have : Builtin.List.listTooLong (a1.length + a2.length) = false := by
      unfold Builtin.List.listTooLong
      exact decide_eq_false (by rw [show sizeLine = 16777216 from rfl]; omega)
    rw [this, Bool.and_false]; decide
  have h2 : a1.toArray.toList.length ≤ sizeLine := by show a1.length ≤ 16777216; omega
  have h3 : a1.toArray.size + a2.toArray.size ≤ sizeLine + 1 := by rw [List.size_toArray, List.size_toArray, show sizeLine = 16777216 from rfl]; omega
  cases a2 with
  | nil =>
    have U' := updF_at (o' := listOf (a1 ++ []).toArray n) U
    have h' := h n
    rw [List.append_nil] at U' h'
    exact kxn_extend F N hb rfl U' h1 h2 h3 h'
  | cons x r => exact kl_extend F N hb rfl (by show r.length + 1 ≠ 0; omega) (updF_at U) h1 h2 h3 (h (n + 1))

theorem pick_from {vs : List Value} {i : Nat} (h : i ≤ vs.length) : kms_pick vs (some (i : Int)) none = vs.drop i := by
  unfold kms_pick kms_lo kms_hi
  simp only [show ¬ ((i : Int) < 0) from by omega, if_false, Int.toNat_natCast, Nat.min_eq_left h]
  exact List.take_of_length_le (by rw [List.length_drop]; exact Nat.le_refl _)

theorem slice_from {vs : List Value} {i c : Nat} {k : Int} {u : Tok} {value slice : PySem.Expr} {Q : Value → Shared → Prop} (F : Fr h₀ L s.heap m) (N : News h₀ L s.heap news) (hm : (l, listOf vs.toArray c) ∈ news) (hk : k = (i : Int)) (hi : i ≤ vs.length) (hz : vs.length ≤ 1000000)
    (h : ∀ D h', Fr h₀ L h' m → News h₀ L h' ((D, listOf (vs.drop i).toArray 0) :: news) → (∀ p ∈ news, p.1 < D) → Q (.ref D) { s with heap := h' })
    (hs : subscripted slice false (.ref l) (.ref s.heap.objs.size) = operate [.ref s.heap.objs.size, .ref l] (getItem (.ref l) (.ref s.heap.objs.size))) (ht : ∀ r, letTemporaryGo value (.ref l) r = pure ()) :
    wpAny (model prog w) A (subscriptTail value slice (.ref l) (.ref s.heap.objs.size)) Q E { s with heap := s.heap.push { cls := .type "slice", data := .fields #[.int k u, .none, .none] } } := by
  subst hk
  exact kms_slice_lit F N (News.isList N hm) (.int _ _) .none (pick_from hi) h hs ht (by rw [List.size_toArray, show sizeLine = 16777216 from rfl]; omega)

theorem note_again2 {M : Model} {L' e T : Addr} {env : Env} {Q : Unit → Shared → Prop} {X : String} {od : Option Addr} {t cx : Value} {osl : Array (Option Value)} {ts : Array Value} (hf : env.frame = some L') (N : News h₀ L' s.heap ((e, excObj X od t (.ref T) cx osl) :: (T, tbObj ts) :: news)) (h3 : ts[3]? = some (rawInt L')) (h : Q () s) :
    wpAny M A (noteFrame (.ref e) env) Q E s := note_again hf (N _ (.head _)).1 rfl rfl (N _ (.tail _ (.head _))).1 rfl h3 h
theorem flight2 {M : Model} {L' e T : Addr} {fl : Option Addr} {Q : Unit → Shared → Prop} {X : String} {od : Option Addr} {t cx v0 : Value} {osl : Array (Option Value)} {ts : Array Value} (F : Fr h₀ L' s.heap m) (N : News h₀ L' s.heap ((e, excObj X od t (.ref T) cx osl) :: (T, tbObj ts) :: news)) (hTe : T ≠ e) (h3 : ts[3]? = some v0) (hne : ∀ p ∈ news, p.1 ≠ T ∧ p.1 ≠ e)
    (k : ∀ h' ts', ts'[3]? = some (fl.elim Value.none fun f => rawInt f) → Fr h₀ L' h' m → News h₀ L' h' ((e, excObj X od t (.ref T) cx osl) :: (T, tbObj ts') :: news) → Q () { s with heap := h' }) : wpAny M A (setFlight (.ref e) fl) Q E s :=
  have hz := (Array.getElem?_eq_some_iff.mp h3).1
  flight F N rfl rfl hTe rfl hz (fun p hp => (hne p hp).1) fun h' F' N' => k h' _ (by simp [hz]) F' N'
theorem pass_on2 {α : Type} {M : Model} {L' e T : Addr} {env : Env} {what : String} {Q : α → Shared → Prop} {X : String} {od : Option Addr} {t cx v0 : Value} {osl : Array (Option Value)} {ts : Array Value} (hf : env.frame = some L') (F : Fr h₀ L' s.heap m) (N : News h₀ L' s.heap ((e, excObj X od t (.ref T) cx osl) :: (T, tbObj ts) :: news)) (hTe : T ≠ e) (h3 : ts[3]? = some v0) (hne : ∀ p ∈ news, p.1 ≠ T ∧ p.1 ≠ e)
    (k : ∀ h' ts', ts'[3]? = some (rawInt L') → Fr h₀ L' h' m → News h₀ L' h' ((e, excObj X od t (.ref T) cx osl) :: (T, tbObj ts') :: news) → E (.ref e) { s with heap := h' }) : wpAny M A (PySem.passOn (α := α) what (.ref e) env) Q E s :=
  pass_on hf (N _ (.head _)).1 rfl rfl (flight2 F N hTe h3 hne k)
theorem came_back {M : Model} {L' e T : Addr} {env : Env} {E' : Value → Shared → Prop} {X : String} {od : Option Addr} {t cx v0 : Value} {osl : Array (Option Value)} {ts : Array Value} (hf : env.frame = some L') (F : Fr h₀ L' s.heap m) (N : News h₀ L' s.heap ((e, excObj X od t (.ref T) cx osl) :: (T, tbObj ts) :: news)) (hTe : T ≠ e) (h3 : ts[3]? = some v0) (hne : ∀ p ∈ news, p.1 ≠ T ∧ p.1 ≠ e)
    (k : ∀ h' ts', ts'[3]? = some (rawInt L') → Fr h₀ L' h' m → News h₀ L' h' ((e, excObj X od t (.ref T) cx osl) :: (T, tbObj ts') :: news) → E' (.ref e) { s with heap := h' }) : cameBackBy M A env E' (.ref e) s := by
  unfold cameBackBy
  refine wpAny_bind (wpAny_field (N _ (.head _)).1 rfl rfl ?_)
  rw [if_neg (by simp), hf]
  exact flight2 F N hTe h3 hne k
theorem caught_L2 {L' e T a : Addr} {name : Str} {scope : Scope} {cd : Value} {K : Frag} {p : Program} {loose : List Str} {mg mb : Str → Option Value} {ts : Array Value} {t cx v0 : Value} {od : Option Addr} {osl : Array (Option Value)}
    {b₀ : Stmt} {suite : List Stmt} {pos np : Pos} {rest : List ExceptHandler} {Q : Flow → Shared → Prop}
    (F : Fr h₀ L' s.heap m) (N : News h₀ L' s.heap ((e, excObj "IndexError" od t (.ref T) cx osl) :: (T, tbObj ts) :: news)) (hTe : T ≠ e) (h3 : ts[3]? = some v0) (hne : ∀ p ∈ news, p.1 ≠ T ∧ p.1 ≠ e)
    (X : K.In h₀) (Tp : TopRead p loose mg mb h₀) (ex : nsIn K mainGlobals "IndexError" = some none)
    (k : ∀ h', Fr h₀ L' h' m → News h₀ L' h' news → wpAny (model prog w) (A.mark (some (.ref e))) (execs (b₀ :: suite) (envOf name scope L' a cd)) Q E { s with heap := h' })
    (hk : scope.kind = .function := by rfl) (hx : (envOf name scope L' a cd).kindOf "IndexError" = some .globalImplicit := by rfl)
    (hE : PassesOwnAt (model prog w) (A.mark (some (.ref e))) A (envOf name scope L' a cd) E := by passes_own) :
    wpAny (model prog w) A (handleBy (.ref e) (envOf name scope L' a cd) (.ExceptHandler (some (.Name "IndexError" np)) none (b₀ :: suite) pos :: rest)) Q E s :=
  caught_L F N hTe rfl (Array.getElem?_eq_some_iff.mp h3).1 (fun p hp => (hne p hp).1) X Tp ex k hk hx hE

theorem mx_slots {T : List (Addr × Obj)} {a : Addr} {o o' : Obj} : mx (T ++ [(a, o)]) = mx (T ++ [(a, o')]) := by
  induction T with
  | nil => rfl
  | cons p r ih => exact congrArg (max (p.1 + 1)) ih

theorem canon6 {k1 k2 k3 k4 k5 k6 : PySem.Str} {m : Str → Option Value} {v1 v2 v3 v4 v5 v6 : Option Value} (h1 : m k1 = v1) (h2 : m k2 = v2) (h3 : m k3 = v3) (h4 : m k4 = v4) (h5 : m k5 = v5) (h6 : m k6 = v6) :
    m = fun y => if y = k1 then v1 else if y = k2 then v2 else if y = k3 then v3 else if y = k4 then v4 else if y = k5 then v5 else if y = k6 then v6 else m y := by
  funext y
  by_cases e1 : y = k1
  · rw [if_pos e1, e1, h1]
  rw [if_neg e1]
  by_cases e2 : y = k2
  · rw [if_pos e2, e2, h2]
  rw [if_neg e2]
  by_cases e3 : y = k3
  · rw [if_pos e3, e3, h3]
  rw [if_neg e3]
  by_cases e4 : y = k4
  · rw [if_pos e4, e4, h4]
  rw [if_neg e4]
  by_cases e5 : y = k5
  · rw [if_pos e5, e5, h5]
  rw [if_neg e5]
  by_cases e6 : y = k6
  · rw [if_pos e6, e6, h6]
  rw [if_neg e6]
end
end

section
open PySem PySem.Spec PySem.Calls PySem.W PyProof.Rows
set_option maxRecDepth 100000

theorem fill8 : ∀ (w : World), hd.heap_39 w.params = hd.heap_39 w.params ∧ PySem.Challenge.rw_tx0024_01.prog = PySem.Challenge.rw_tx0024_01.prog := by
  k_fill
  intro w; exact ⟨rfl, rfl⟩


local macro_rules | `(tactic| walk_at "call builtin:list.append") => `(tactic| k_extra "M append")
local macro_rules | `(tactic| walk_at "compareOp Eq int int") => `(tactic| k_extra "M compareOp Eq int int")

local macro_rules | `(tactic| walk_at "noteFrame ref") => `(tactic| k_extra "M noteFrame ref")
local macro_rules | `(tactic| walk_at "setFlight ref") => `(tactic| k_extra "M setFlight ref")
local macro_rules | `(tactic| walk_at "handleBy") => `(tactic| k_extra "M handleBy")
local macro_rules | `(tactic| walk_at "exec") => `(tactic| ((with_reducible show wpAny _ _ (exec (Stmt.While _ _ [] _) _) _ _ _); k_extra "M While"))
local macro_rules | `(tactic| walk_at "exec While Compare cons nil") => `(tactic| k_extra "M While")
local macro_rules | `(tactic| walk_at "exec While Compare") => `(tactic| k_extra "M While")
def Stopped (P : Prop) : Prop := P
theorem stopped {P : Prop} (h : Stopped P) : P := h
theorem go_on {P : Prop} (h : P) : Stopped P := h
local macro_rules | `(tactic| walk_at "subscriptTail") => `(tactic| ((with_reducible show wpAny _ _ (subscriptTail _ _ (Value.ref _) (Value.int _ _)) _ _ _); k_extra "M item"))
local macro_rules | `(tactic| walk_at "subscriptTail Name Slice ref ref") => `(tactic| k_extra "M slice")
local macro_rules | `(tactic| walk_at "call builtin:list.extend") => `(tactic| k_extra "M extend")


theorem mem_endL {L UA MA : Addr} {a b o : Obj} {T0 : List (Addr × Obj)} : (L, o) ∈ (UA, a) :: (MA, b) :: (T0 ++ [(L, o)]) := .tail _ (.tail _ (List.mem_append_right _ (.head _)))
theorem drop2 {h₀ h : Heap} {L : Addr} {a b : Addr × Obj} {l : List (Addr × Obj)} (N : News h₀ L h (a :: b :: l)) : News h₀ L h l := fun p hp => N p (.tail _ (.tail _ hp))
def tupR (a b : Addr) : Obj := { cls := .type "tuple", data := .seq #[.ref a, .ref b] }
structure SJ (xs ys : List Int) (T0 : List (Addr × Obj)) (L EA AA MA UA : Addr) (oL : Obj) (m : Str → Option Value) (news : List (Addr × Obj)) (i j : Nat) (mv uv : List Value) (mz uz : List Int) (ti tj : Tok) (cM cU : Nat) : Prop where
  hi : i ≤ xs.length
  hj : j ≤ ys.length
  mi : m "i" = some (.int (i : Int) ti)
  mj : m "j" = some (.int (j : Int) tj)
  mm : m "missing" = some (.ref MA)
  mu : m "unexpected" = some (.ref UA)
  me : m "expected" = some (.ref EA)
  ma : m "actual" = some (.ref AA)
  far : Far xs ys i j mz uz
  im : IntsAre mv mz
  iu : IntsAre uv uz
  lm : mz.length ≤ i
  lu : uz.length ≤ j
  nw : news = (UA, listOf uv.toArray cU) :: (MA, listOf mv.toArray cM) :: (T0 ++ [(L, oL)])

structure SEnd (xs ys : List Int) (T0 : List (Addr × Obj)) (h₀ : Heap) (L L' MA UA : Addr) (oL : Obj) (h' : Heap) (m : Str → Option Value) (mv uv : List Value) (cM cU : Nat) (sl : Array (Option Value)) : Prop where
  fr : Fr h₀ L' h' m
  mm : m "missing" = some (.ref MA)
  mu : m "unexpected" = some (.ref UA)
  im : IntsAre mv (dif xs ys)
  iu : IntsAre uv (dif ys xs)
  nw : News h₀ L' h' ((UA, listOf uv.toArray cU) :: (MA, listOf mv.toArray cM) :: (T0 ++ [(L, { oL with slots := sl })]))

theorem end_first {M : Model} {A : Around} {E : Value → Shared → Prop} {Q : Flow → Shared → Prop} {s : Shared} {t : Sem Flow} (End : Heap → (Str → Option Value) → List Value → List Value → Nat → Nat → Array (Option Value) → Prop)
    (fin : ∀ h' tk m' mv uv cM cU sl, End h' m' mv uv cM cU sl → Q .next { s with heap := h', toks := tk })
    (turns : ∀ Q' : Flow → Shared → Prop, (∀ h' tk m' mv uv cM cU sl, End h' m' mv uv cM cU sl → Q' .next { s with heap := h', toks := tk }) → wpAny M A t Q' E s) : wpAny M A t Q E s := turns Q fin

set_option maxHeartbeats 1000000 in
theorem sld (w : World) (T0 : List (Addr × Obj)) (EA AA : Addr) (vsE vsA : List Value) (xs ys : List Int) (cE cA : Nat) (hE : (EA, listOf vsE.toArray cE) ∈ T0) (hA : (AA, listOf vsA.toArray cA) ∈ T0) (iE : IntsAre vsE xs) (iA : IntsAre vsA ys) (ux : Up xs) (uy : Up ys) (lx : xs.length ≤ 1000) (ly : ys.length ≤ 1000)
    {p : Program} {loose : List Str} {mean : ExcName → Option Value} {mg mb : Str → Option Value} {dp un : Nat} {gd : Option (List Code)} {cn : Str} {cs : Scope} {fa : Addr} {ccd : Value} {cl : List (Str × Addr)} {h₀ : Heap} {L : Addr} {m : Str → Option Value} {s : Shared} {Q E : Value → Shared → Prop}
    (F : Fr h₀ L s.heap m) (X : (hd.heap_39 w.params).In h₀) (N : News h₀ L s.heap T0) (T : Top p loose mean mg mb h₀) (hk : cs.kind = .function) (hd : dp + 4 < recursionLimit) (hu : un + 8 * 4 < cLine)
    (hret : ∀ D M U mv uv c1 c2 h' tk, Fr h₀ L h' m → News h₀ L h' ((D, tupR M U) :: (U, listOf uv.toArray c2) :: (M, listOf mv.toArray c1) :: T0) → IntsAre mv (dif xs ys) → IntsAre uv (dif ys xs) → @LE.le Nat _ (mx T0) M → @LT.lt Nat _ M U → @LT.lt Nat _ U D → Q (.ref D) { s with heap := h', toks := tk }) :
    wpAny (model PR w) (ktrTop dp un gd cn cs L fa ccd cl []) (call (.ref 63) [.ref EA, .ref AA]) Q E s := by
  k_with_none
  refine wpAny_call ?_
  k_dflt (refine' code_defE ?k1 ?k2 ?k3 ?k4 ?k6 ?k7 ?k8 ?k9 ?kB ?_ ?c2 ?c3 ?c4 ?c5; (case k1 => k_asm); (case k2 => k_asm); (case k3 => k_asm); (case k4 => k_asm); (case k6 => k_is); (case k7 => k_is); (case k8 => ktr_room); (case k9 => exact BindsTo.of_eq rfl); (case c5 => decide); (case kB => exact locs rfl); (case c2 => exact rfl); (case c3 => exact rfl); (case c4 => exact rfl); k_whole)
  intro oL es ep h₁ hoL hns F' N' hlt
  dsimp only
  have hap0 : ∀ p ∈ T0, p.1 ≠ L := fun p hp => (N p hp).2.1
  have hB0 : @LE.le Nat _ (mx (T0 ++ [(L, oL)])) s.heap.objs.size := mx_le_of hlt
  k_with "M While" => (refine stopped ?_)
  k_steps
  refine go_on ?_
  first
    | (rename_i MA hx1 lM hx2 tkx UA hx3 lU hx4 F9 N9; have hMU : @LT.lt Nat _ MA UA := lU.1)
    | (rename_i MA hx1 lM hx2 UA hx3 lU hx4 F9 N9; have hMU : @LT.lt Nat _ MA UA := lU.1)
  have hMne : ∀ o, ∀ p ∈ T0 ++ [(L, o)], p.1 ≠ MA := fun o => mx_ne (by rw [mx_slots (o' := oL)]; exact mx_le_of lM)
  have hUne : ∀ o, ∀ p ∈ T0 ++ [(L, o)], p.1 ≠ UA := fun o => mx_ne (by rw [mx_slots (o' := oL)]; exact mx_le_of (kst_ltOf lU.2))
  have hLM : @Ne Nat MA L := Nat.ne_of_gt (lM _ (List.mem_append_right _ (.head _)))
  have hLU : @Ne Nat UA L := Nat.ne_of_gt (kst_ltOf lU.2 _ (List.mem_append_right _ (.head _)))
  have hT0M : @LE.le Nat _ (mx T0) MA := mx_le_of fun p hp => lM p (List.mem_append_left _ hp)
  have hUM : UA ≠ MA := (Nat.ne_of_lt hMU).symm
  have hUne2 : ∀ o o', ∀ p ∈ (MA, o') :: (T0 ++ [(L, o)]), p.1 ≠ UA := fun o o' p hp => by
    rcases List.mem_cons.mp hp with rfl | hp
    · exact Nat.ne_of_lt hMU
    · exact hUne o p hp
  clear hlt
  clear lM lU
  refine end_first (End := fun h' m' mv uv cM cU sl => SEnd xs ys T0 h₀ L s.heap.objs.size MA UA oL h' m' mv uv cM cU sl) ?fin ?turns
  case fin =>
    intro h' tk' m' mv uv cM cU sl S
    obtain ⟨F8, mm, mu, im, iu, N8⟩ := S
    have em := canon6 mm mu mm mu mm mu
    rw [em] at F8
    dsimp only
    k_with_none
    k_steps
    rename_i DA hd8 F8' N8' l8
    have hLg : hd8.get? L = some { oL with slots := sl } := (N8' _ (.tail _ mem_endL)).1
    exact hret DA MA UA mv uv cM cU hd8 _ ⟨hns _ sl hLg, F8'.keep, F.above⟩ (fun p hp => by
      rcases List.mem_cons.mp hp with rfl | hp
      · exact ⟨(N8' _ (.head _)).1, Nat.ne_of_gt (kst_ltOf l8.2.2 (L, { oL with slots := sl }) (List.mem_append_right _ (.head _))), (N8' _ (.head _)).2.2⟩
      rcases List.mem_cons.mp hp with rfl | hp
      · exact ⟨(N8' _ (.tail _ (.head _))).1, hLU, (N8' _ (.tail _ (.head _))).2.2⟩
      rcases List.mem_cons.mp hp with rfl | hp
      · exact ⟨(N8' _ (.tail _ (.tail _ (.head _)))).1, hLM, (N8' _ (.tail _ (.tail _ (.head _)))).2.2⟩
      have hp' := N8' p (.tail _ (.tail _ (.tail _ (List.mem_append_left _ hp))))
      exact ⟨hp'.1, hap0 p hp, hp'.2.2⟩) im iu hT0M hMU l8.1
  case turns =>
    intro Qe hfin
    refine While_inv2 (fun n m' n' => ∃ i j mv uv mz uz ti tj cM cU, SJ xs ys T0 L EA AA MA UA oL m' n' i j mv uv mz uz ti tj cM cU ∧ n = (xs.length - i) + (ys.length - j)) (n₀ := (xs.length - 0) + (ys.length - 0)) F9 N9 ?J0 ?turn
    case J0 => exact ⟨0, 0, [], [], [], [], _, _, 0, 0, ⟨Nat.zero_le _, Nat.zero_le _, rfl, rfl, rfl, rfl, rfl, rfl, Far.start _ _, .nil, .nil, Nat.zero_le _, Nat.zero_le _, rfl⟩, rfl⟩
    case turn =>
      intro n m1 n1 hh tk3 F1 N1 hJ
      obtain ⟨i, j, mv, uv, mz, uz, ti, tj, cM, cU, S, rfl⟩ := hJ
      obtain ⟨hi, hj, mi, mj, mm, mu, me, ma, far, im, iu, lm, lu, rfl⟩ := S
      rw [canon6 mi mj mm mu me ma] at F1
      clear F9 N9
      k_with_none
      k_with "M item" => (k_dflt (first
        | (refine' item_nat (l := EA) (n := i) ?N ?hm iE hx0 ?hk ?hz ?_ ?hs; (case N => k_asm); (case hm => repeat (first | exact List.mem_append_left _ hE | refine List.Mem.tail _ ?_)); (case hk => first | rfl | omega); (case hz => omega); (case hs => with_unfolding_all rfl); k_whole; intro te')
        | (refine' item_nat (l := EA) (n := i + 1) ?N ?hm iE hx1 ?hk ?hz ?_ ?hs; (case N => k_asm); (case hm => repeat (first | exact List.mem_append_left _ hE | refine List.Mem.tail _ ?_)); (case hk => first | rfl | omega); (case hz => omega); (case hs => with_unfolding_all rfl); k_whole; intro te')
        | (refine' item_nat (l := AA) (n := j) ?N ?hm iA hy0 ?hk ?hz ?_ ?hs; (case N => k_asm); (case hm => repeat (first | exact List.mem_append_left _ hA | refine List.Mem.tail _ ?_)); (case hk => first | rfl | omega); (case hz => omega); (case hs => with_unfolding_all rfl); k_whole; intro te')
        | (refine' item_nat (l := AA) (n := j + 1) ?N ?hm iA hy1 ?hk ?hz ?_ ?hs; (case N => k_asm); (case hm => repeat (first | exact List.mem_append_left _ hA | refine List.Mem.tail _ ?_)); (case hk => first | rfl | omega); (case hz => omega); (case hs => with_unfolding_all rfl); k_whole; intro te')
        | (refine' item_none (l := EA) (n := i) rfl ?F ?N ?hm iE hx0 ?hk ?hz ?_ ?hs; (case F => k_asm); (case N => k_asm); (case hm => repeat (first | exact List.mem_append_left _ hE | refine List.Mem.tail _ ?_)); (case hk => first | rfl | omega); (case hz => omega); (case hs => with_unfolding_all rfl); k_whole; intro h' tk' e' t' od' osl' rz')
        | (refine' item_none (l := EA) (n := i + 1) rfl ?F ?N ?hm iE hx1 ?hk ?hz ?_ ?hs; (case F => k_asm); (case N => k_asm); (case hm => repeat (first | exact List.mem_append_left _ hE | refine List.Mem.tail _ ?_)); (case hk => first | rfl | omega); (case hz => omega); (case hs => with_unfolding_all rfl); k_whole; intro h' tk' e' t' od' osl' rz')
        | (refine' item_none (l := AA) (n := j) rfl ?F ?N ?hm iA hy0 ?hk ?hz ?_ ?hs; (case F => k_asm); (case N => k_asm); (case hm => repeat (first | exact List.mem_append_left _ hA | refine List.Mem.tail _ ?_)); (case hk => first | rfl | omega); (case hz => omega); (case hs => with_unfolding_all rfl); k_whole; intro h' tk' e' t' od' osl' rz')
        | (refine' item_none (l := AA) (n := j + 1) rfl ?F ?N ?hm iA hy1 ?hk ?hz ?_ ?hs; (case F => k_asm); (case N => k_asm); (case hm => repeat (first | exact List.mem_append_left _ hA | refine List.Mem.tail _ ?_)); (case hk => first | rfl | omega); (case hz => omega); (case hs => with_unfolding_all rfl); k_whole; intro h' tk' e' t' od' osl' rz')
        | (refine' item_none_in (l := AA) (n := j + 1) ?hA ?F ?N ?g1 ?g2 ?g3 ?hm iA hy1 ?hk ?hz ?_ ?hs; (case hA => exact rfl); (case F => k_asm); (case N => k_asm); (case g1 => exact .head _); (case g2 => exact rfl); (case g3 => exact rfl); (case hm => repeat (first | exact List.mem_append_left _ hA | refine List.Mem.tail _ ?_)); (case hk => first | rfl | omega); (case hz => omega); (case hs => with_unfolding_all rfl); k_whole; intro h' tk' e2' t2' od2' osl2' rz2')))
      k_with "M noteFrame ref" => (k_dflt (first
        | (refine' note_again2 ?f ?N ?h3 ?_; (case f => exact rfl); (case N => k_asm); (case h3 => assumption); k_whole)
        | (refine' note_rz (news := (e', _) :: (T', _) :: (UA, _) :: (MA, _) :: T0) ?R rfl rfl rfl rfl hk ?hol ?hap ?_; (case R => exact rz2'); (case hol => exact ⟨_, _, hoL⟩); (case hap => (intro p hp; rcases List.mem_cons.mp hp with rfl | hp; exact (aap _ mem_endL).2.symm; rcases List.mem_cons.mp hp with rfl | hp; exact (aap _ mem_endL).1.symm; rcases List.mem_cons.mp hp with rfl | hp; exact hLU; rcases List.mem_cons.mp hp with rfl | hp; exact hLM; exact hap0 p hp)); k_whole; clear rz2'; intro h' T' ts' sl' a3 aTe aap F' N'; (try dsimp only [List.cons_append] at N' aap))
        | (refine' note_rz (news := (UA, _) :: (MA, _) :: T0) ?R rfl rfl rfl rfl hk ⟨_, _, hoL⟩ ?hap ?_; (case R => exact rz'); (case hap => (intro p hp; rcases List.mem_cons.mp hp with rfl | hp; exact hLU; rcases List.mem_cons.mp hp with rfl | hp; exact hLM; exact hap0 p hp)); k_whole; clear rz'; intro h' T' ts' sl' a3 aTe aap F' N'; (try dsimp only [List.cons_append] at N' aap))))
      k_with "M setFlight ref" => (k_dflt (refine' flight2 ?F ?N ?hTe ?h3 ?hne ?_; (case F => k_asm); (case N => k_asm); (case hTe => assumption); (case h3 => assumption); (case hne => assumption); k_whole); intro h' ts' a3 F' N'; dsimp only [Option.elim] at a3)
      k_with "M handleBy" => (k_dflt (refine' caught_L2 ?F ?N ?hTe ?h3 ?hne ?X ?Tp ?ex ?_ ?hk ?hx ?hE; (case F => k_asm); (case N => k_asm); (case hTe => assumption); (case h3 => assumption); (case hne => assumption); (case X => k_asm); (case Tp => k_asm); (case ex => k_is); (case hk => rfl); (case hx => rfl); (case hE => passes_own); k_whole); intro h' F' N')
      k_with "M slice" => (k_dflt (first
        | (refine' slice_from (l := EA) (i := i) ?F ?N ?hm ?hk ?hi ?hz ?_ ?hs ?ht; (case F => k_asm); (case N => k_asm); (case hm => repeat (first | exact List.mem_append_left _ hE | refine List.Mem.tail _ ?_)); (case hk => first | rfl | omega); (case hi => (rw [iE.length]; omega)); (case hz => (rw [iE.length]; omega)); (case hs => with_unfolding_all rfl); (case ht => (intro _; with_unfolding_all rfl)); k_whole; intro D1 h' F' N' l1; have hD1M : D1 ≠ MA := (Nat.ne_of_lt (l1 _ (.tail _ (.head _)))).symm; have hD1U : D1 ≠ UA := (Nat.ne_of_lt (l1 _ (.head _))).symm)
        | (refine' slice_from (l := EA) (i := i + 1) ?F ?N ?hm ?hk ?hi ?hz ?_ ?hs ?ht; (case F => k_asm); (case N => k_asm); (case hm => repeat (first | exact List.mem_append_left _ hE | refine List.Mem.tail _ ?_)); (case hk => first | rfl | omega); (case hi => (rw [iE.length]; omega)); (case hz => (rw [iE.length]; omega)); (case hs => with_unfolding_all rfl); (case ht => (intro _; with_unfolding_all rfl)); k_whole; intro D1 h' F' N' l1; have hD1M : D1 ≠ MA := (Nat.ne_of_lt (l1 _ (.tail _ (.head _)))).symm; have hD1U : D1 ≠ UA := (Nat.ne_of_lt (l1 _ (.head _))).symm)
        | (refine' slice_from (l := AA) (i := j) ?F ?N ?hm ?hk ?hi ?hz ?_ ?hs ?ht; (case F => k_asm); (case N => k_asm); (case hm => repeat (first | exact List.mem_append_left _ hA | refine List.Mem.tail _ ?_)); (case hk => first | rfl | omega); (case hi => (rw [iA.length]; omega)); (case hz => (rw [iA.length]; omega)); (case hs => with_unfolding_all rfl); (case ht => (intro _; with_unfolding_all rfl)); k_whole; intro D2 h' F' N' l1; have hD2U : D2 ≠ UA := (Nat.ne_of_lt (l1 _ (.tail _ (.head _)))).symm)
        | (refine' slice_from (l := AA) (i := j + 1) ?F ?N ?hm ?hk ?hi ?hz ?_ ?hs ?ht; (case F => k_asm); (case N => k_asm); (case hm => repeat (first | exact List.mem_append_left _ hA | refine List.Mem.tail _ ?_)); (case hk => first | rfl | omega); (case hi => (rw [iA.length]; omega)); (case hz => (rw [iA.length]; omega)); (case hs => with_unfolding_all rfl); (case ht => (intro _; with_unfolding_all rfl)); k_whole; intro D2 h' F' N' l1; have hD2U : D2 ≠ UA := (Nat.ne_of_lt (l1 _ (.tail _ (.head _)))).symm)))
      k_with "M extend" => (k_dflt (refine' ext_any ?F ?N ?hb ?U ?hz ?_; (case F => k_asm); (case N => k_asm); (case hb => exact .head _); (case U => first | (apply UpdF.tail hD1M; apply UpdF.tail hUM; exact UpdF.head (hMne _)) | (apply UpdF.tail hD2U; apply UpdF.tail hD1U; exact UpdF.head (hUne2 _ _))); (case hz => (simp only [List.length_append, List.length_drop, List.length_cons, List.length_nil, im.length, iu.length, iE.length, iA.length]; omega)); k_whole); intro c' h' F' N'; (try dsimp only at N'); (try k_sweep))
      k_with "M append" => (k_dflt (refine' append_K ?k1 ?k2 ?k3 ?_ ?hz; (case k1 => k_asm); (case k2 => k_asm); (case k3 => first | exact Upd.head (hUne2 _ _) | (apply Upd.tail hUM; exact Upd.head (hMne _))); (case hz => (simp only [List.size_toArray, im.length, iu.length, show sizeLine = 16777216 from rfl]; omega))); intro h' F' N'; (try k_sweep); (simp only [List.push_toArray] at N'))
      k_with "M While" => (k_dflt (refine' while_no ?F ?N ?_ ?hE; (case F => k_asm); (case N => k_asm); (case hE => passes_own)); intro hw' tkw' Fw' Nw')
      k_with "M compareOp Eq int int" => (with_reducible refine eq_no (by assumption) ?_)
      rcases hx0 : xs[i]? with _ | x
      · have fe := far.endl (.inl hx0)
        k_steps
        exact hfin _ _ _ _ _ _ _ _ ⟨F', rfl, rfl, fe.1 ▸ IntsAre.append im (iE.drop i), fe.2 ▸ IntsAre.append iu (iA.drop j), fun p hp => N' p (.tail _ (.tail _ hp))⟩
      have hxl : i < xs.length := (List.getElem?_eq_some_iff.mp hx0).1
      rcases hy0 : ys[j]? with _ | y
      · have fe := far.endl (.inr hy0)
        k_steps
        exact hfin _ _ _ _ _ _ _ _ ⟨F', rfl, rfl, fe.1 ▸ IntsAre.append im (iE.drop i), fe.2 ▸ IntsAre.append iu (iA.drop j), fun p hp => N' p (.tail _ (.tail _ hp))⟩
      have hyl : j < ys.length := (List.getElem?_eq_some_iff.mp hy0).1
      by_cases hlt : x < y
      · have fe := far.low uy hx0 hy0 hlt
        rcases hx1 : xs[i + 1]? with _ | x1
        · have fe := fe.endl (.inl hx1)
          k_steps
          exact hfin _ _ _ _ _ _ _ _ ⟨F', rfl, rfl, fe.1 ▸ IntsAre.append (IntsAre.append im (.cons _ _ .nil)) (iE.drop (i + 1)), fe.2 ▸ IntsAre.append iu (iA.drop j), fun p hp => N' p (.tail _ (.tail _ hp))⟩
        · have hxn : ¬ x1 = x := up_ne ux hx0 hx1
          have hx2 : i + 1 < xs.length := (List.getElem?_eq_some_iff.mp hx1).1
          k_steps
          exact ⟨_, _, _, _, _, rfl, Fw', Nw', (by omega), i + 1, j, _, _, mz ++ [x], uz, _, _, _, _, ⟨by omega, by omega, rfl, rfl, rfl, rfl, rfl, rfl, fe, (IntsAre.append im (.cons _ _ .nil)), iu, by ((try simp only [List.length_append, List.length_cons, List.length_nil]); omega), by ((try simp only [List.length_append, List.length_cons, List.length_nil]); omega), rfl⟩, rfl⟩
      by_cases hgt : x > y
      · have fe := far.high ux hx0 hy0 hgt
        rcases hy1 : ys[j + 1]? with _ | y1
        · have fe := fe.endl (.inr hy1)
          k_steps
          exact hfin _ _ _ _ _ _ _ _ ⟨F', rfl, rfl, fe.1 ▸ IntsAre.append im (iE.drop i), fe.2 ▸ IntsAre.append (IntsAre.append iu (.cons _ _ .nil)) (iA.drop (j + 1)), fun p hp => N' p (.tail _ (.tail _ hp))⟩
        · have hyn : ¬ y1 = y := up_ne uy hy0 hy1
          have hy2 : j + 1 < ys.length := (List.getElem?_eq_some_iff.mp hy1).1
          k_steps
          exact ⟨_, _, _, _, _, rfl, Fw', Nw', (by omega), i, j + 1, _, _, mz, uz ++ [y], _, _, _, _, ⟨by omega, by omega, rfl, rfl, rfl, rfl, rfl, rfl, fe, im, (IntsAre.append iu (.cons _ _ .nil)), by ((try simp only [List.length_append, List.length_cons, List.length_nil]); omega), by ((try simp only [List.length_append, List.length_cons, List.length_nil]); omega), rfl⟩, rfl⟩
      have fe := far.same ux uy hx0 hy0 (by omega)
      rcases hx1 : xs[i + 1]? with _ | x1
      · have fe := fe.endl (.inl hx1)
        rcases hy1 : ys[j + 1]? with _ | y1
        · k_steps
          unfold notedBy
          k_steps
          refine came_back (L' := s.heap.objs.size) rfl F' N' aTe a3 aap ?_
          intro h' ts' a3 F' N'
          dsimp only
          k_steps
          replace N' := drop2 N'
          k_steps
          exact hfin _ _ _ _ _ _ _ _ ⟨F', rfl, rfl, fe.1 ▸ IntsAre.append im (iE.drop (i + 1)), fe.2 ▸ IntsAre.append iu (iA.drop (j + 1)), fun p hp => N' p (.tail _ (.tail _ hp))⟩
        · have hyn : ¬ y1 = y := up_ne uy hy0 hy1
          k_steps
          dsimp only
          refine pass_on2 (L' := s.heap.objs.size) rfl Fw' Nw' aTe a3 aap ?_
          intro h' ts' a3 F' N'
          dsimp only
          k_steps
          exact hfin _ _ _ _ _ _ _ _ ⟨F', rfl, rfl, fe.1 ▸ IntsAre.append im (iE.drop (i + 1)), fe.2 ▸ IntsAre.append iu (iA.drop (j + 1)), fun p hp => N' p (.tail _ (.tail _ hp))⟩
      · have hxn : ¬ x1 = x := up_ne ux hx0 hx1
        rcases hy1 : ys[j + 1]? with _ | y1
        · have fe := fe.endl (.inr hy1)
          k_steps
          unfold notedBy
          k_steps
          refine came_back (L' := s.heap.objs.size) rfl F' N' aTe a3 aap ?_
          intro h' ts' a3 F' N'
          dsimp only
          k_steps
          exact hfin _ _ _ _ _ _ _ _ ⟨F', rfl, rfl, fe.1 ▸ IntsAre.append im (iE.drop (i + 1)), fe.2 ▸ IntsAre.append iu (iA.drop (j + 1)), fun p hp => N' p (.tail _ (.tail _ hp))⟩
        · have hyn : ¬ y1 = y := up_ne uy hy0 hy1
          have hx2 : i + 1 < xs.length := (List.getElem?_eq_some_iff.mp hx1).1
          have hy2 : j + 1 < ys.length := (List.getElem?_eq_some_iff.mp hy1).1
          k_steps
          exact ⟨_, _, _, _, _, rfl, Fw', Nw', (by omega), i + 1, j + 1, _, _, mz, uz, _, _, _, _, ⟨by omega, by omega, rfl, rfl, rfl, rfl, rfl, rfl, fe, im, iu, by ((try simp only [List.length_append, List.length_cons, List.length_nil]); omega), by ((try simp only [List.length_append, List.length_cons, List.length_nil]); omega), rfl⟩, rfl⟩
end

end

end

end

section
open PySem PySem.Spec PySem.Calls PySem.W PyProof.Rows PyProof.Rows.LCg
set_option maxRecDepth 100000


/-- one turn of a comprehension over a zip has ended -/
def ZEnd (h₀ : Heap) (L : Addr) (m : Str → Option Value) (own : List (Addr × Obj)) (C : Addr) (oC : Obj) (D : Addr) (oD : Obj) (s₁ : Shared) (Jn : List (Addr × Obj) → Prop) (s₂ : Shared) : Prop :=
  ∃ h' tk' news', s₂ = { s₁ with heap := h', toks := tk' } ∧ Fr h₀ L h' m ∧ News h₀ L h' ((C, oC) :: (D, oD) :: (own ++ news')) ∧ (∀ p ∈ news', p.1 ≠ C ∧ p.1 ≠ D ∧ ∀ q ∈ own, p.1 ≠ q.1) ∧ Jn news'

theorem own_of {h : Heap} : ∀ (as : List Addr), (∀ a ∈ as, ∃ o, h.get? a = some o) → ∃ own : List (Addr × Obj), own.map (·.1) = as ∧ ∀ p ∈ own, h.get? p.1 = some p.2
  | [], _ => ⟨[], rfl, fun p hp => nomatch hp⟩
  | a :: r, hx => by
    obtain ⟨o, ho⟩ := hx a (.head _)
    obtain ⟨own, e1, e2⟩ := own_of r fun b hb => hx b (.tail _ hb)
    refine ⟨(a, o) :: own, by rw [List.map_cons, e1], fun p hp => ?_⟩
    rcases List.mem_cons.mp hp with rfl | hp
    · exact ho
    · exact e2 p hp

section
variable {prog : Program} {w : World} {A : Around} {E : Value → Shared → Prop} {s : Shared} {h₀ : Heap} {L l1 l2 : Addr} {m : Str → Option Value} {env : Env} {lo1 lo2 : Obj} {xs zs : List Value} {n1 n2 : Nat} {news : List (Addr × Obj)}

/-- what one turn must do -/
def ZTurn (prog : Program) (w : World) (A : Around) (h₀ : Heap) (L : Addr) (m : Str → Option Value) (env : Env) (elt c : PySem.Expr) (a b : PySem.Str) (scope : Scope) (cl : List (Str × Addr)) (s : Shared) (xs zs : List Value) (J : Nat → List Value → List (Addr × Obj) → Prop) : Prop :=
  ∀ i x y ys news' own C oC D m₂ h tk (E' : Value → Shared → Prop), xs[i]? = some x → zs[i]? = some y → J i ys news' → NsObj oC m₂ → m₂ a = some x → m₂ b = some y → Fr h₀ L h m → News h₀ L h ((C, oC) :: (D, lst ys) :: (own ++ news')) → C ≠ D → (∀ p ∈ own, p.1 ≠ C ∧ p.1 ≠ D) → (∀ p ∈ news', p.1 ≠ C ∧ p.1 ≠ D ∧ ∀ q ∈ own, p.1 ≠ q.1) →
      wpAny (model prog w) A (isTrue c (compEnvC scope cl C env) (eval c (compEnvC scope cl C env))) (fun okb s₃ => if okb = true then
        wpAny (model prog w) A (eval elt (compEnvC scope cl C env)) (fun v s₄ => ZEnd h₀ L m own C oC D (lst ys) { s with heap := h, toks := tk } (J (i + 1) (ys ++ [v])) s₄) E' s₃
        else ZEnd h₀ L m own C oC D (lst ys) { s with heap := h, toks := tk } (J (i + 1) ys) s₃) E' { s with heap := h, toks := tk }

set_option maxHeartbeats 1000000 in
theorem comp_block {elt iter c : PySem.Expr} {a b : PySem.Str} {pa pb tp : Pos} {kk : Nat} {scope : Scope} {cl : List (Str × Addr)} {pos : Pos} {I : Addr} {fp wr oa : List Addr} {n : Nat} {P Md : Nat → Value → Heap → Prop} {St : Nat → Heap → Prop}
    {RR : Value → Addr → Result → Shared → Prop} (J : Nat → List Value → List (Addr × Obj) → Prop)
    (W : KTurns prog w A (.Tuple [.Name a pa, .Name b pb] kk tp) I fp wr n P Md St) (hself : ∀ i (s : Shared) (Q : Value → Shared → Prop) (E : Value → Shared → Prop), St i s.heap → Q (.ref I) s → wpAny (model prog w) A (pyIter (.ref I)) Q E s) (hh : A.handled = none) (hsz : n ≤ 1000000)
    (hP : ∀ i v h, P i v h → ∃ x y T, v = .ref T ∧ h.IsTuple T #[x, y] ∧ xs[i]? = some x ∧ zs[i]? = some y)
    (hoa : ∀ i h, St i h → ∀ d ∈ oa, ∃ o, h.get? d = some o) (hwr : ∀ d ∈ wr, d ∈ oa) (kept : List (Addr × Obj)) (hS : ∀ i ys news', J i ys news' → ∀ p ∈ kept, p ∈ news') (hfp : ∀ d ∈ fp, d ∈ oa ∨ ∃ o, (d, o) ∈ kept)
    (hst : St 0 s.heap) (F : Fr h₀ L s.heap m) (N : News h₀ L s.heap news) (ho0 : ∀ d ∈ oa, h₀.get? d = none ∧ d ≠ L) (hno : ∀ p ∈ news, p.1 ∉ oa) (J0 : J 0 [] news)
    (hcell : ∀ y ∈ scope.names, y.2 ≠ .cell) (hkind : scope.kind = .function) (hxa : scope.names.lookup a = some .local) (hxb : scope.names.lookup b = some .local) (hab : ¬ a = b)
    (turn : ZTurn prog w A h₀ L m env elt c a b scope cl s xs zs J)
    (hRR : ∀ D C h tk m' ys news', Fr h₀ L h m → News h₀ L h ((D, lst ys) :: news') → (∀ p ∈ news', p.1 ≠ C ∧ p.1 ≠ D) → h.Ns C m' → h₀.get? C = none → h₀.get? D = none → C ≠ L → D ≠ L → C ≠ D → J n ys news' → RR (.ref D) C (.ok .next) { s with heap := h, toks := tk }) :
    wpAny (model prog w) A (newList []) (fun acc s₃ => wpAny (model prog w) A (newFunctionEnv scope env.globals cl [] env.qual none .none (some env)) (fun cenv s₄ =>
      codeAny (model prog w) A (.compStart (.ListComp elt [⟨.Tuple [.Name a pa, .Name b pb] kk tp, iter, [c], 0⟩] scope pos) 0 (.ref I) acc { cenv with scope := relabel scope env }) (RR acc cenv.locals) s₄) E s₃) E s := by
  refine wpAny_newObj_type (wpAny_newFunctionEnv hcell (by intro y hy; simp at hy) (fun h₁ hns₁ hsb₁ => ?_) hkind)
  dsimp only at hns₁ hsb₁ ⊢
  generalize hH2 : s.heap.push { cls := .type "list", dict := none, data := .seq ([] : List Value).toArray } = H2 at hns₁ hsb₁ ⊢
  have hC : H2.objs.size = s.heap.objs.size + 1 := by rw [← hH2, Heap.size_push]
  generalize hDe : s.heap.objs.size = D at hC
  generalize hCe : H2.objs.size = C at hns₁ hsb₁ hC ⊢
  have hDC : D ≠ C := by rw [hC]; exact Nat.ne_of_lt (Nat.lt_succ_self _)
  have ltD : ∀ d o, s.heap.get? d = some o → @LT.lt Nat _ d D := fun d o e => hDe ▸ Heap.lt_size e
  have neD : ∀ d o, s.heap.get? d = some o → d ≠ D := fun d o e => Nat.ne_of_lt (ltD d o e)
  have neC : ∀ d o, s.heap.get? d = some o → d ≠ C := fun d o e => by rw [hC]; exact Nat.ne_of_lt (Nat.lt_succ_of_lt (ltD d o e))
  have old : ∀ d o, s.heap.get? d = some o → h₁.get? d = some o := fun d o e => hsb₁.extBut d o (neC d o e) (Heap.get?_push_of_some _ (hH2 ▸ Heap.get?_push_of_some _ e))
  have hacc : h₁.get? D = some (lst []) := hsb₁.extBut _ _ hDC (Heap.get?_push_of_some _ (hH2 ▸ hDe ▸ Heap.get?_push_size _ rfl))
  have fresh₀ : ∀ d, @LE.le Nat _ D d → h₀.get? d = none := fun d hd => by
    cases e : h₀.get? d with
    | none => rfl
    | some o => exact absurd (ltD _ _ (F.keep _ _ e)) (Nat.not_lt.mpr hd)
  have hD₀ : h₀.get? D = none := fresh₀ _ (Nat.le_refl _)
  have hC₀ : h₀.get? C = none := fresh₀ _ (by rw [hC]; exact Nat.le_succ _)
  obtain ⟨oL, _, _, hL, _⟩ := F.ns
  have hDL : D ≠ L := (neD _ _ hL).symm
  have hCL : C ≠ L := (neC _ _ hL).symm
  have hoD : ∀ d ∈ oa, d ≠ D ∧ d ≠ C := fun d hd => by
    obtain ⟨o, e⟩ := hoa _ _ hst d hd
    exact ⟨neD _ _ e, neC _ _ e⟩
  have hst₁ : St 0 h₁ := W.frame _ _ _ hst fun d _ o e => old d o e
  have loop : ∀ s₃ : Shared, s₃ = { s with heap := h₁, toks := s.toks + ([] : List (Str × Value)).length } →
      codeAny (model prog w) A (.compLoop (.ListComp elt [⟨.Tuple [.Name a pa, .Name b pb] kk tp, iter, [c], 0⟩] scope pos) 0 (.ref I) (.ref D) (compEnvC scope cl C env)) (RR (.ref D) C) s₃ := by
    rintro s₃ rfl
    refine kct_loop (fun k s' => ∃ h' tk i ys m' news', s' = { s with heap := h', toks := tk } ∧ i ≤ n ∧ k = n + 1 - i ∧ ys.length ≤ i ∧ St i h' ∧ Fr h₀ L h' m ∧ h'.Ns C m' ∧ News h₀ L h' ((D, lst ys) :: news') ∧ (∀ p ∈ news', p.1 ≠ C ∧ p.1 ≠ D ∧ p.1 ∉ oa) ∧ J i ys news') ?_ (n + 1)
      ⟨h₁, _, 0, [], _, news, rfl, Nat.zero_le _, rfl, Nat.le_refl _, hst₁, F.keeps old, hns₁, fun p hp => ?_, fun p hp => ⟨neC _ _ (N p hp).1, neD _ _ (N p hp).1, hno p hp⟩, J0⟩
    · rintro k s' ⟨h', tk, i, ys, m', news', rfl, hi, rfl, hyl, hst', F', hn', N', off', hJ⟩
      by_cases hlt : i < n
      · refine W.item i _ _ _ hlt hst' fun v h₂ tk₂ hMd hk₂ => ?_
        refine W.go i v _ _ _ hMd fun h₃ hPv hst₃ hk₃ => ?_
        obtain ⟨x, y, T, rfl, hT, hx, hy⟩ := hP _ _ _ hPv
        have up₃ : ∀ d o, d ∉ oa → h'.get? d = some o → h₃.get? d = some o := fun d o hd e => hk₃ d o (fun q => hd (hwr d q)) (hk₂ d o (fun q => hd (hwr d q)) e)
        have hCo : C ∉ oa := fun q => (hoD C q).2 rfl
        have hDo : D ∉ oa := fun q => (hoD D q).1 rfl
        have hLo : L ∉ oa := fun q => (ho0 L q).2 rfl
        refine kcp_assign (env := compEnvC scope cl C env) hh hT (lookup_relabel_local hxa) (lookup_relabel_local hxb) (by simp [compEnvC, relabel, hkind]) (hn'.at' fun o e => up₃ _ o hCo e) fun h₄ tk₄ hn₄ hs₄ => ?_
        have hs₄' : ∀ d o, d ≠ C → h₃.get? d = some o → h₄.get? d = some o := hs₄
        have up : ∀ d o, d ∉ oa → d ≠ C → h'.get? d = some o → h₄.get? d = some o := fun d o h1 h2 e => hs₄' d o h2 (up₃ d o h1 e)
        have hst₄ : St (i + 1) h₄ := W.frame _ _ _ hst₃ fun d hd o e => hs₄' d o (fun q => by
          rcases hfp d hd with h1 | ⟨o', h1⟩
          · exact hCo (q ▸ h1)
          · exact (off' _ (hS _ _ _ hJ _ h1)).1 q) e
        obtain ⟨own, ho1, ho2⟩ := own_of oa (hoa _ _ hst₄)
        obtain ⟨oC, heC, hoC⟩ := ns_obj hn₄
        have hown : ∀ p ∈ own, p.1 ∈ oa := fun p hp => ho1 ▸ List.mem_map.mpr ⟨p, hp, rfl⟩
        have F₄ : Fr h₀ L h₄ m := ⟨F'.ns.at' fun o e => up _ o hLo (Ne.symm hCL) e, fun d o e => up d o (fun q => by rw [(ho0 d q).1] at e; cases e) (fun q => by rw [q, hC₀] at e; cases e) (F'.keep d o e), F'.above⟩
        have N₄ : News h₀ L h₄ ((C, oC) :: (D, lst ys) :: (own ++ news')) := fun q hq => by
          rcases List.mem_cons.mp hq with rfl | hq
          · exact ⟨heC, hCL, hC₀⟩
          rcases List.mem_cons.mp hq with rfl | hq
          · exact ⟨up _ _ hDo hDC (N' _ (.head _)).1, hDL, hD₀⟩
          rcases List.mem_append.mp hq with hq | hq
          · exact ⟨ho2 q hq, (ho0 _ (hown q hq)).2, (ho0 _ (hown q hq)).1⟩
          · have z := N' q (.tail _ hq)
            exact ⟨up _ _ (off' q hq).2.2 (off' q hq).1 z.1, z.2⟩
        have back : ∀ (ys' : List Value) (h₅ : Heap) (tk₅ : Nat) (news₅ : List (Addr × Obj)), ys'.length ≤ i + 1 → Fr h₀ L h₅ m → News h₀ L h₅ ((C, oC) :: (D, lst ys') :: (own ++ news₅)) → (∀ p ∈ news₅, p.1 ≠ C ∧ p.1 ≠ D ∧ ∀ q ∈ own, p.1 ≠ q.1) → J (i + 1) ys' news₅ →
            ∃ q', q' < n + 1 - i ∧ (∃ h' tk i ys m' news', ({ s with heap := h₅, toks := tk₅ } : Shared) = { s with heap := h', toks := tk } ∧ i ≤ n ∧ q' = n + 1 - i ∧ ys.length ≤ i ∧ St i h' ∧ Fr h₀ L h' m ∧ h'.Ns C m' ∧ News h₀ L h' ((D, lst ys) :: news') ∧ (∀ p ∈ news', p.1 ≠ C ∧ p.1 ≠ D ∧ p.1 ∉ oa) ∧ J i ys news') := by
          intro ys' h₅ tk₅ news₅ hl F₅ N₅ off₅ hJ₅
          have zC := (N₅ (C, oC) (.head _)).1
          refine ⟨n + 1 - (i + 1), by omega, h₅, tk₅, i + 1, ys', _, news₅, rfl, hlt, rfl, hl, W.frame _ _ _ hst₄ fun d hd o e => ?_, F₅, hoC.ns zC, fun q hq => ?_, fun p hp => ?_, hJ₅⟩
          · rcases hfp d hd with h1 | ⟨o', h1⟩
            · rw [← ho1] at h1
              obtain ⟨q, hq, rfl⟩ := List.mem_map.mp h1
              rw [ho2 q hq] at e
              have := (N₅ q (.tail _ (.tail _ (List.mem_append_left _ hq)))).1
              rw [this]; exact e
            · have e1 := (N₄ (d, o') (.tail _ (.tail _ (List.mem_append_right _ (hS _ _ _ hJ _ h1))))).1
              have e2 := (N₅ (d, o') (.tail _ (.tail _ (List.mem_append_right _ (hS _ _ _ hJ₅ _ h1))))).1
              rw [e1] at e
              rw [e2]; exact e
          · rcases List.mem_cons.mp hq with rfl | hq
            · exact N₅ _ (.tail _ (.head _))
            · exact N₅ q (.tail _ (.tail _ (List.mem_append_right _ hq)))
          · obtain ⟨a1, a2, a3⟩ := off₅ p hp
            refine ⟨a1, a2, fun q => ?_⟩
            rw [← ho1] at q
            obtain ⟨r, hr, er⟩ := List.mem_map.mp q
            exact a3 r hr er.symm
        refine wpAny_mono (turn i x y ys news' own C oC D _ h₄ tk₄ _ hx hy hJ hoC (by simp [hab]) (by simp) F₄ N₄ (Ne.symm hDC) (fun p hp => ⟨(hoD _ (hown p hp)).2, (hoD _ (hown p hp)).1⟩) (fun p hp => ⟨(off' p hp).1, (off' p hp).2.1, fun q hq z => (off' p hp).2.2 (z ▸ hown q hq)⟩)) (fun okb s₅ h₅ => ?_) fun _ _ e => e
        cases okb with
        | false =>
          simp only [Bool.false_eq_true, if_false] at h₅ ⊢
          obtain ⟨h₅, tk₅, news₅, rfl, F₅, N₅, off₅, hJ₅⟩ := h₅
          exact back ys h₅ tk₅ news₅ (Nat.le_succ_of_le hyl) F₅ N₅ off₅ hJ₅
        | true =>
          simp only [if_true] at h₅ ⊢
          refine wpAny_mono h₅ (fun v s₆ h₆ => ?_) fun _ _ e => e
          obtain ⟨h₅, tk₅, news₅, rfl, F₅, N₅, off₅, hJ₅⟩ := h₆
          have zD := (N₅ (D, lst ys) (.tail _ (.head _))).1
          refine append_at (hsz := by (show ys.toArray.size ≤ 16777216; rw [List.size_toArray]; omega)) zD fun h₆ hs₆ hD₆ => ?_
          refine back (ys ++ [v]) h₆ _ news₅ (by rw [List.length_append, List.length_singleton]; exact Nat.succ_le_succ hyl) (F₅.change hs₆ hDL hD₀) (fun q hq => ?_) off₅ hJ₅
          rcases List.mem_cons.mp hq with rfl | hq
          · exact ⟨hs₆.extBut _ _ (Ne.symm hDC) (N₅ _ (.head _)).1, hCL, hC₀⟩
          rcases List.mem_cons.mp hq with rfl | hq
          · exact ⟨hD₆.trans (congrArg some (lst_snoc ys v)), hDL, hD₀⟩
          have z := N₅ q (.tail _ (.tail _ hq))
          refine ⟨hs₆.extBut _ _ (fun e => ?_) z.1, z.2⟩
          rcases List.mem_append.mp hq with hq | hq
          · exact (hoD _ (hown q hq)).1 e
          · exact (off₅ q hq).2.1 e
      · have hin : i = n := Nat.le_antisymm hi (Nat.not_lt.mp hlt)
        subst hin
        refine W.done _ _ _ hst' fun h₂ tk₂ hk₂ => ?_
        have up : ∀ d o, d ∉ oa → h'.get? d = some o → h₂.get? d = some o := fun d o hd e => hk₂ d o (fun q => hd (hwr d q)) e
        have hLo : L ∉ oa := fun q => (ho0 L q).2 rfl
        refine hRR _ _ h₂ tk₂ _ ys news' ⟨F'.ns.at' fun o e => up _ o hLo e, fun d o e => up d o (fun q => by rw [(ho0 d q).1] at e; cases e) (F'.keep d o e), F'.above⟩ (fun q hq => ?_) (fun p hp => ⟨(off' p hp).1, (off' p hp).2.1⟩) (hn'.at' fun o e => up _ o (fun q => (hoD C q).2 rfl) e) hC₀ hD₀ hCL hDL (Ne.symm hDC) hJ
        have z := N' q hq
        refine ⟨up _ _ ?_ z.1, z.2⟩
        rcases List.mem_cons.mp hq with rfl | hq
        · exact fun q => (hoD _ q).1 rfl
        · exact (off' q hq).2.2
    · rcases List.mem_cons.mp hp with rfl | hp
      · exact ⟨hacc, hDL, hD₀⟩
      · exact ⟨old _ _ (N p hp).1, (N p hp).2⟩
  exact codeAny_compStart_list (loop _ rfl) (hself _ _ _ _ hst₁ (loop _ rfl))

set_option maxHeartbeats 1000000 in
theorem zip_comp {elt iter c : PySem.Expr} {a b : PySem.Str} {pa pb tp : Pos} {kk : Nat} {scope : Scope} {cl : List (Str × Addr)} {pos : Pos} {Q : Value → Shared → Prop} (J : Nat → List Value → List (Addr × Obj) → Prop)
    (hh : A.handled = none) (F : Fr h₀ L s.heap m) (N : News h₀ L s.heap news) (hc1 : lo1.cls = .type "list") (hd1 : lo1.data = .seq xs.toArray n1) (hc2 : lo2.cls = .type "list") (hd2 : lo2.data = .seq zs.toArray n2)
    (hS : ∀ i ys news', J i ys news' → (l1, lo1) ∈ news' ∧ (l2, lo2) ∈ news') (hlen : zs.length = xs.length) (hsz : xs.length ≤ 1000000) (J0 : J 0 [] news)
    (hclos : closureFor scope env = pure cl) (hcell : ∀ y ∈ scope.names, y.2 ≠ .cell) (hkind : scope.kind = .function)
    (hnames : ∀ y ∈ scope.names, y.2 = .local → scope.names.lookup y.1 = some .local) (hxa : scope.names.lookup a = some .local) (hxb : scope.names.lookup b = some .local) (hab : ¬ a = b)
    (hiter : ∀ Q' : Value → Shared → Prop, wpAny (model prog w) A (call (.type "zip") [.ref l1, .ref l2]) Q' E s → wpAny (model prog w) A (eval iter env) Q' E s)
    (turn : ∀ g, ZTurn prog w A h₀ L m env elt c a b scope cl { s with heap := g } xs zs J)
    (fin : ∀ D h tk ys news', Fr h₀ L h m → News h₀ L h ((D, lst ys) :: news') → (∀ p ∈ news', p.1 ≠ D) → J xs.length ys news' → Q (.ref D) { s with heap := h, toks := tk })
    (hs : ∀ x, foldedSetIterable iter env x = pure x := by intro _; rfl) :
    wpAny (model prog w) A (eval (.ListComp elt [⟨.Tuple [.Name a pa, .Name b pb] kk tp, iter, [c], 0⟩] scope pos) env) Q E s := by
  rw [eval_ListComp]
  obtain ⟨hm1, hm2⟩ := hS _ _ _ J0
  have hax1 := N _ hm1
  have hax2 := N _ hm2
  have hl1 : s.heap.IsList l1 xs.toArray := ⟨lo1, hax1.1, hc1, n1, hd1⟩
  have hl2 : s.heap.IsList l2 zs.toArray := ⟨lo2, hax2.1, hc2, n2, hd2⟩
  refine wpAny_comprehension_free (use := none) rfl hs hclos hkind hnames (hiter _ (call_zip_2 hl1 hl2 fun h1 hz hTI hTO hi1 hi2 hsz1 hk1 => wpAny_pyIter_zip hz ?_))
  have hn : min xs.toArray.size zs.toArray.size = xs.length := by rw [List.size_toArray, List.size_toArray, hlen, Nat.min_self]
  generalize hI : s.heap.objs.size = I at hz hTI hTO hi1 hi2 hsz1
  have hlt1 : @LT.lt Nat _ l1 I := hI ▸ Heap.lt_size hax1.1
  have hlt2 : @LT.lt Nat _ l2 I := hI ▸ Heap.lt_size hax2.1
  have hLs : @LT.lt Nat _ L I := hI ▸ F.ns.lt
  have hnI : ∀ p ∈ news, @LT.lt Nat _ p.1 I := fun p hp => hI ▸ Heap.lt_size (N p hp).1
  have DZ : ZipApart (I + 4) (I + 2) (I + 3) I (I + 1) l1 l2 := ktu_apart _ _ _ hlt1 hlt2
  have fresh₀ : ∀ b, @LE.le Nat _ I b → h₀.get? b = none := fun b hb => by
    cases e : h₀.get? b with
    | none => rfl
    | some o => exact absurd (Heap.lt_size (F.keep _ _ e)) (Nat.not_lt.mpr (hI ▸ hb))
  have WU := (WalksT.zip2 (prog := prog) (w := w) hh _ _ _ _ _ _ _ DZ xs.toArray zs.toArray).toU
  rw [hn] at WU
  have five : ∀ d : Nat, d ∈ ([I + 4, I + 2, I + 3, I, I + 1] : List Nat) → I ≤ d := fun d hd => by
    simp only [List.mem_cons, List.not_mem_nil, or_false] at hd
    omega
  refine comp_block (oa := [I + 4, I + 2, I + 3, I, I + 1]) (kept := [(l1, lo1), (l2, lo2)]) J (KTurns.ofWalksU (elts := [.Name a pa, .Name b pb]) (k := kk) (pos := tp) WU) WU.self hh hsz ?hP ?hoa ?hwr ?hS ?hfp ⟨hz, hTI, ⟨_, _, hTO⟩, hi1, hi2, hl1.at fun o e => hk1 _ o e, hl2.at fun o e => hk1 _ o e⟩ (F.keeps hk1) (fun p hp => ⟨hk1 _ _ (N p hp).1, (N p hp).2⟩) ?ho0 ?hno J0 hcell hkind hxa hxb hab (turn h1) ?hRR
  case hP =>
    rintro i v h ⟨T, vals, rfl, ⟨x, y, hx, hy, rfl⟩, hT⟩
    exact ⟨x, y, T, rfl, hT, by simpa using hx, by simpa using hy⟩
  case hoa =>
    rintro i h ⟨hz, hTI, ⟨a, b, hTO⟩, ⟨o1, ho1, _⟩, ⟨o2, ho2, _⟩, _⟩ d hd
    simp only [List.mem_cons, List.not_mem_nil, or_false] at hd
    rcases hd with rfl | rfl | rfl | rfl | rfl
    · exact ⟨_, hz⟩
    · exact ⟨_, hTI⟩
    · exact ⟨_, hTO⟩
    · exact ⟨_, ho1⟩
    · exact ⟨_, ho2⟩
  case hwr =>
    intro d hd
    simp only [List.mem_cons, List.not_mem_nil, or_false] at hd ⊢
    rcases hd with h | h | h | h <;> simp [h]
  case hS =>
    intro i ys news' hJ p hp
    rcases List.mem_cons.mp hp with rfl | hp
    · exact (hS _ _ _ hJ).1
    · rw [List.mem_singleton.mp hp]; exact (hS _ _ _ hJ).2
  case hfp =>
    intro d hd
    simp only [List.mem_cons, List.not_mem_nil, or_false] at hd ⊢
    rcases hd with h | h | h | h | h | h | h
    · exact .inl (by simp [h])
    · exact .inl (by simp [h])
    · exact .inl (by simp [h])
    · exact .inl (by simp [h])
    · exact .inl (by simp [h])
    · exact .inr ⟨lo1, .inl (by rw [h])⟩
    · exact .inr ⟨lo2, .inr (by rw [h])⟩
  case ho0 => exact fun d hd => ⟨fresh₀ d (five d hd), Nat.ne_of_gt (Nat.lt_of_lt_of_le hLs (five d hd))⟩
  case hno => exact fun p hp hm => Nat.lt_irrefl _ (Nat.lt_of_lt_of_le (hnI p hp) (five _ hm))
  case hRR =>
    intro D C h tk m' ys news' F' N' o1 hn hC₀ hD₀ hCL hDL hCD hJ
    refine ⟨m', hn, fun h'' hs'' => fin D h'' tk ys news' (F'.change hs'' hCL hC₀) (fun p hp => ?_) (fun p hp => (o1 p hp).2) hJ⟩
    refine ⟨hs''.extBut _ _ ?_ (N' p hp).1, (N' p hp).2⟩
    rcases List.mem_cons.mp hp with rfl | hp
    · exact Ne.symm hCD
    · exact (o1 p hp).1
end
end

section
open PySem PySem.Spec PySem.Calls PySem.W PyProof.Rows
set_option maxRecDepth 100000

abbrev lawCl (L : Addr) : List (Str × Addr) := [("begin", L + 1 + 1 + 1 + 1), ("s", L + 1 + 1 + 1), ("both", L + 1 + 1), ("p", L + 1)]
section
variable {prog : Program} {w : World} {A : Around} {E : Value → Shared → Prop} {s : Shared} {a b c : Int} {t u : Tok} {Q : Value → Shared → Prop}
theorem shl_at {n : Nat} (e : b = (n : Int)) (hn : n ≤ 4499) (h : Q (.int (2 ^ n) s.toks) { s with toks := s.toks + 1 }) : wpAny (model prog w) A (binaryOp .LShift (.int 1 t) (.int b u)) Q E s := by
  subst e; exact shl_one (by omega) h
theorem mod_at (e : a.fmod b = c) (hb : b ≠ 0) (h : Q (.int c s.toks) { s with toks := s.toks + 1 }) : wpAny (model prog w) A (binaryOp .Mod (.int a t) (.int b u)) Q E s := mod_int hb (by rw [e]; exact h)
theorem add_at (e : a + b = c) (h : Q (.int c s.toks) { s with toks := s.toks + 1 }) : wpAny (model prog w) A (binaryOp .Add (.int a t) (.int b u)) Q E s := add_int (by rw [e]; exact h)
theorem sub_at (e : a - b = c) (h : Q (.int c s.toks) { s with toks := s.toks + 1 }) : wpAny (model prog w) A (binaryOp .Sub (.int a t) (.int b u)) Q E s := sub_int (by rw [e]; exact h)
end
/-- the law has ended -/
def LawEnd (base : Heap) (L : Addr) (s : Shared) (Q : Flow → Shared → Prop) : Prop :=
  ∀ h' tk m' news' a1 a2, Fr base L h' m' → News base L h' news' → (37, tabObj a1) ∈ news' → (30, tabObj a2) ∈ news' → Q (.ret (.bool true)) { s with heap := h', toks := tk }


theorem ints_get : ∀ {vs : List Value} {ns : List Int} {i : Nat} {x : Int}, IntsAre vs ns → ns[i]? = some x → ∃ t, vs[i]? = some (.int x t)
  | _, _, _, _, .nil, h => by simp at h
  | _, _, 0, _, .cons n t _, h => ⟨t, by simpa using h⟩
  | _, _, i + 1, _, .cons n t r, h => by
    obtain ⟨t', e⟩ := ints_get (i := i) r (by simpa using h)
    exact ⟨t', by simpa using e⟩
theorem item_last {prog : Program} {w : World} {A : Around} {E : Value → Shared → Prop} {s : Shared} {Q : Value → Shared → Prop} {value slice : PySem.Expr} {h₀ : Heap} {L W : Addr} {vW : List Value} {cW : Nat} {b k : Int} {u : Tok} {news : List (Addr × Obj)}
    (N : News h₀ L s.heap news) (hm : (W, listOf vW.toArray cW) ∈ news) (hi : IntsAre vW (win b)) (hk : k = -1) (h : ∀ t, Q (.int (b + 11) t) s)
    (hs : subscripted slice false (.ref W) (.int k u) = operate [.ref W, .int k u] (getItem (.ref W) (.int k u)) := by with_unfolding_all rfl) :
    wpAny (model prog w) A (subscriptTail value slice (.ref W) (.int k u)) Q E s := by
  subst hk
  obtain ⟨t, e⟩ := ints_get (i := 11) (x := b + 11) hi (by simp [win])
  have hl : vW.length = 12 := by rw [hi.length, win_length]
  exact kde_neg (j := 11) (News.isList N hm) (by decide) (by decide) (by rw [hl]; rfl) e (h t) hs
/-- the tables, the list and the rest stand apart -/
structure Ap (TA TB : List (Addr × Obj)) (UP : Addr) (T : List (Addr × Obj)) : Prop where
  ab : ApartL TA TB
  at' : ApartL TA T
  bt : ApartL TB T
  au : ∀ q ∈ TA, UP ≠ q.1
  bu : ∀ q ∈ TB, UP ≠ q.1
  ut : ∀ p ∈ T, p.1 ≠ UP
abbrev pairD (x : Int × Int) : Dat := .tuple [.int x.1, .int x.2]
end

section
open PySem PySem.Spec PySem.Calls PySem.W PyProof.Rows
set_option maxRecDepth 100000


section
open PySem PySem.Spec PySem.Calls PySem.W PyProof.Rows
set_option maxRecDepth 100000

theorem fill9u : ∀ (w : World), hd.heap_39 w.params = hd.heap_39 w.params ∧ PySem.Challenge.rw_tx0024_01.prog = PySem.Challenge.rw_tx0024_01.prog := by
  k_fill
  intro w; exact ⟨rfl, rfl⟩
local macro_rules | `(tactic| walk_at "binaryOp Mult int int") => `(tactic| k_extra "M binaryOp Mult int int")
local macro_rules | `(tactic| walk_at "binaryOp Add int int") => `(tactic| k_extra "M binaryOp Add int int")
local macro_rules | `(tactic| walk_at "call ref") => `(tactic| k_extra "M call ref")
local macro_rules | `(tactic| walk_at "subscriptTail") => `(tactic| ((with_reducible show wpAny _ _ (subscriptTail _ _ (Value.ref _) (Value.int _ _)) _ _ _); k_extra "M item"))

local macro_rules | `(tactic| passes_own) => `(tactic| assumption)
local macro_rules | `(tactic| k_mem) => `(tactic| (refine List.mem_append_right _ ?_; k_mem))
local macro_rules | `(tactic| k_mem) => `(tactic| assumption)
local macro_rules | `(tactic| k_all) => `(tactic| first | with_reducible assumption | (refine mx_ne ?_; (try simp only [allLt_mx] at *); omega))
local macro_rules | `(tactic| walk_at "pyIter ref") => `(tactic| k_extra "M pyIter")
local macro_rules | `(tactic| walk_at "subscriptTail Name UnaryOp ref int") => `(tactic| k_extra "M item")
local macro_rules | `(tactic| walk_at "MINE p") => `(tactic| (k_here; k_dflt (refine' DivC.use ?C ?hC1 ?hC2 ?B ?F ?X ?N ?T ?hk ?hd ?hu ?_; (case N => k_asm))))
local macro_rules | `(tactic| walk_at "MINE q") => `(tactic| (k_dflt ((case hC1 => assumption); (case hC2 => assumption); (case F => k_asm); (case B => k_asm); (case X => k_asm); (case T => k_asm); (case hk => first | exact rfl | assumption); (case hd => ktr_room); (case hu => ktr_units); k_whole)))
theorem rotI {h₀ h : Heap} {L : Addr} {x y : Addr × Obj} {TA TB T : List (Addr × Obj)} (N : News h₀ L h (x :: (TA ++ (TB ++ (y :: T))))) : News h₀ L h (TA ++ (TB ++ (x :: y :: T))) := fun p hp => N p (by
  simp only [List.mem_append, List.mem_cons] at hp ⊢
  rcases hp with h | h | h | h | h <;> simp [h])
theorem rotU {h₀ h : Heap} {L : Addr} {d x y z : Addr × Obj} {TA TB T : List (Addr × Obj)} (N : News h₀ L h (d :: x :: (TA ++ (TB ++ (y :: z :: T))))) : News h₀ L h (z :: d :: y :: (TA ++ (TB ++ T))) := fun p hp => N p (by
  simp only [List.mem_append, List.mem_cons] at hp ⊢
  rcases hp with h | h | h | h | h | h <;> simp [h])

section
variable {prog : Program} {w : World} {A : Around} {E : Value → Shared → Prop} {s : Shared} {env : Env} {h₀ : Heap} {x : Str} {body : List Stmt} {Q : Flow → Shared → Prop}
theorem rr_ind {I : Addr} {a : Int} {n : Nat} (P : Nat → (Str → Option Value) → List (Addr × Obj) → Prop)
    (stop : ∀ m news h tk, P n m news → Fr h₀ env.locals h m → News h₀ env.locals h news → Q .next { s with heap := h, toks := tk })
    (turn : ∀ i m news t h tk, i < n → P i m news → Fr h₀ env.locals h (fun y => if y = x then some (.int (a + (i : Int)) t) else m y) → News h₀ env.locals h ((I, itR (a + ((i + 1 : Nat) : Int)) ((n : Int) - ((i + 1 : Nat) : Int))) :: news) →
      wpAny (model prog w) A (execs body env) (UnrPost h₀ env.locals { s with heap := h, toks := tk } I (itR (a + ((i + 1 : Nat) : Int)) ((n : Int) - ((i + 1 : Nat) : Int))) (P (i + 1)) Q) E { s with heap := h, toks := tk }) :
    ∀ k i, i + k = n → ∀ m news, P i m news → RangeRest prog w A E h₀ env x body Q s I a n k i m news
  | 0, i, hi, m, news, hP => fun h tk F N => stop m news h tk (by rw [← hi]; exact hP) F N
  | k + 1, i, hi, m, news, hP => RangeRest.succ fun t h tk F N => wpAny_mono (turn i m news t h tk (by omega) hP F N) (fun f s₂ hp => by
      cases f with
      | ret v => exact hp
      | brk => exact hp
      | next =>
        obtain ⟨h', tk, m', news', e, F', N', off, r⟩ := hp
        exact ⟨h', tk, m', news', e, F', N', off, rr_ind P stop turn k (i + 1) (by omega) _ _ r⟩
      | cont =>
        obtain ⟨h', tk, m', news', e, F', N', off, r⟩ := hp
        exact ⟨h', tk, m', news', e, F', N', off, rr_ind P stop turn k (i + 1) (by omega) _ _ r⟩) fun _ _ e => e
end
theorem idU (w : World) {news TA TB : List (Addr × Obj)} (wA : W30 TA) (wB : W37 TB) (ap1 : ApartL TA (TB ++ news)) (ap2 : ApartL TB news) {u : Nat} {p q s b : Int} (H : Lw u p q s b) {t : Nat} (ht : t ≤ 12) (ta tb : Tok) :
    DivC w 56 news TA TB [.int ((p + q) * (aheadAt p q s b + (t : Int)) + s) ta, .int p tb] (nU p q s (aheadAt p q s b + (t : Int))) (rU p q s (aheadAt p q s b + (t : Int))) 106 :=
  id_any w news TA TB wA.tab wB.tab ap1 ap2 _ _ ta tb H.pq.hp (H.fit2 ht)
structure LpJ (TA TB T : List (Addr × Obj)) (UP I : Addr) (m₀ : Str → Option Value) (p q s b : Int) (i : Nat) (m : Str → Option Value) (us : List Value) (c : Nat) (T' : List (Addr × Obj)) : Prop where
  sub : ∀ p ∈ T, p ∈ T'
  dat : DatAll T' us ((usU p q s b i).map pairD)
  ap : Ap TA TB UP T'
  off : ∀ p ∈ T', p.1 ≠ I
  same : ∀ y : PySem.Str, y ≠ "turn" → y ≠ "place" → y ≠ "rest" → m y = m₀ y
  low : ∀ j : Nat, j < i → nU p q s (aheadAt p q s b + (j : Int)) ≤ b + 11

set_option maxHeartbeats 4000000 in
theorem loopU (w : World) (TA TB T : List (Addr × Obj)) (UP W : Addr) (vW : List Value) (cW : Nat) (nm pr bd sc dec ret tp tsc bind pos)
    (he : Stmt.FunctionDef nm pr bd dec ret tp sc tsc bind pos = stAt 11) (tg it body els fp) (hb : Stmt.For tg it body els fp = bd.getD 10 default)
    {p : Program} {loose : List Str} {mean : ExcName → Option Value} {mg mb : Str → Option Value} {dp un : Nat} {gd : Option (List Code)} {fa : Addr} {ccd : Value} {A₀ : Around} {base : Heap} {L : Addr} {m₀ : Str → Option Value} {s : Shared} {Q : Flow → Shared → Prop} {E : Value → Shared → Prop} (o1 o2 o3 : Obj)
    (u : Nat) (pp q sg b : Int) (H : Lw u pp q sg b) (t1 t2 t3 ta : Tok)
    (d1 : o1.data = .cell (some (.int pp t1))) (d2 : o2.data = .cell (some (.int (pp + q) t2))) (d3 : o3.data = .cell (some (.int sg t3)))
    (h1 : (L + 1, o1) ∈ T) (h2 : (L + 1 + 1, o2) ∈ T) (h3 : (L + 1 + 1 + 1, o3) ∈ T) (hW : (W, listOf vW.toArray cW) ∈ T) (iW : IntsAre vW (win b))
    (wA : W30 TA) (wB : W37 TB) (ap : Ap TA TB UP T)
    (hC1 : CodeHd base 34 30) (hC2 : CodeHd base 41 37) (B : Below A₀ base [] base)
    (mW : m₀ "window" = some (.ref W)) (mU : m₀ "upper" = some (.ref UP)) (mA : m₀ "ahead" = some (.int (aheadAt pp q sg b) ta)) (F : Fr base L s.heap m₀) (X : (hd.heap_39 w.params).In base)
    (N : News base L s.heap (TA ++ (TB ++ ((UP, listOf #[] 0) :: T))))
    (Tp : Top p loose mean mg mb base) (hd : dp + 120 < recursionLimit) (hu : un + 8 * 120 < cLine)
    (hE : PassesOwn (model PR w) (ktrTop dp un gd nm sc L fa ccd (lawCl L) []) (envX nm sc L fa ccd (lawCl L)) E)
    (hret : ∀ h' tk m' T' us c, Fr base L h' m' → (∀ y : PySem.Str, y ≠ "turn" → y ≠ "place" → y ≠ "rest" → m' y = m₀ y) → News base L h' (TA ++ (TB ++ ((UP, listOf us.toArray c) :: T'))) → (∀ p ∈ T, p ∈ T') → DatAll T' us (((mineOf pp q sg b).map fun n => (n, leftAt pp q sg n)).map pairD) → Ap TA TB UP T' → us.length ≤ 12 → Q .next { s with heap := h', toks := tk }) :
    wpAny (model PR w) (ktrTop dp un gd nm sc L fa ccd (lawCl L) []) (exec (Stmt.For tg it body els fp) (envX nm sc L fa ccd (lawCl L))) Q E s := by
  injection he with e1 e2 e3 e4 e5 e6 e7 e8 e9 e10
  clear e4 e5 e6 e8 e9 e10
  subst e1 e2 e3 e7
  injection hb with e1 e2 e3 e4 e5
  subst e1 e2 e3 e4 e5
  k_with_none
  k_with "M pyIter" => (refine stopped ?_)
  k_steps
  refine go_on ?_
  rename_i hR hF hN hKp
  refine iter_rangeUnr (n := 13) rfl hR (by decide) (by decide) hF hN fun I hI => rr_ind (fun i m nx => ∃ us c T', nx = TA ++ (TB ++ ((UP, listOf us.toArray c) :: T')) ∧ LpJ TA TB T UP I m₀ pp q sg b i m us c T') ?stop ?turn 13 0 (Nat.zero_add 13) _ _ ?start
  case start => exact ⟨[], 0, T, rfl, fun _ h => h, .nil, ap, fun p hp => Nat.ne_of_lt (hI p (List.mem_append_right _ (List.mem_append_right _ (.tail _ hp)))), fun _ _ _ _ => rfl, fun _ h => absurd h (Nat.not_lt_zero _)⟩
  case stop =>
    intro m nx h tk hJ
    obtain ⟨us, c, T', rfl, J⟩ := hJ
    exact absurd (endU H.pq 12 (J.low 12 (by decide))) (by decide)
  case turn =>
    intro i m1 nx t hh tk1 hi hJ F1 N1
    obtain ⟨us, c, T', rfl, J⟩ := hJ
    obtain ⟨hsub, hdat, hap, hoff, hsame, hlow⟩ := J
    have mW1 := (hsame "window" (by decide) (by decide) (by decide)).trans mW
    have mU1 := (hsame "upper" (by decide) (by decide) (by decide)).trans mU
    have mA1 := (hsame "ahead" (by decide) (by decide) (by decide)).trans mA
    have em := canon6 mW1 mU1 mA1 mW1 mU1 mA1
    rw [em] at F1
    replace h1 := hsub _ h1
    replace h2 := hsub _ h2
    replace h3 := hsub _ h3
    replace hW := hsub _ hW
    replace N1 := rotI N1
    change Fr base L hh _ at F1
    change News base L hh _ at N1
    clear hF hN hKp hR
    have hi12 : i ≤ 12 := by omega
    have zB := H.szB
    have zA := H.sza hi12
    have hIA : ∀ q ∈ TA, I ≠ q.1 := fun q hq => Nat.ne_of_gt (hI q (List.mem_append_left _ hq))
    have hIB : ∀ q ∈ TB, I ≠ q.1 := fun q hq => Nat.ne_of_gt (hI q (List.mem_append_right _ (List.mem_append_left _ hq)))
    have hIU : UP ≠ I := Nat.ne_of_lt (hI (UP, listOf #[] 0) (List.mem_append_right _ (List.mem_append_right _ (.head _))))
    have ap2 : ∀ it o, ApartL TB ((I, it) :: (UP, o) :: T') := fun it o q hq p hp => by
      rcases List.mem_cons.mp hp with rfl | hp
      · exact hIB q hq
      rcases List.mem_cons.mp hp with rfl | hp
      · exact hap.bu q hq
      · exact hap.bt q hq p hp
    have ap1 : ∀ it o, ApartL TA (TB ++ ((I, it) :: (UP, o) :: T')) := fun it o => hap.ab.app fun q hq p hp => by
      rcases List.mem_cons.mp hp with rfl | hp
      · exact hIA q hq
      rcases List.mem_cons.mp hp with rfl | hp
      · exact hap.au q hq
      · exact hap.at' q hq p hp
    have eadd : aheadAt pp q sg b + (0 + (i : Int)) = aheadAt pp q sg b + (i : Int) := by rw [Int.zero_add]
    by_cases hbr : nU pp q sg (aheadAt pp q sg b + (i : Int)) > b + 11
    · k_with_none
      k_with "M binaryOp Add int int" => (with_reducible refine add_at eadd ?_)
      k_with "M binaryOp Mult int int" => (with_reducible refine mul_sz zB zA ?_)
      k_with "M call ref" => (walk_at "MINE p"; (case C => exact idU w wA wB (ap1 _ _) (ap2 _ _) H hi12 _ _); walk_at "MINE q"; intro D9 t19 t29 h' tk' TA2 TB2 w1 w2 e1 e2 a1 a2 F' N' l9; rw [e1 wA, e2 wB] at N' l9; clear w1 w2 e1 e2 a1 a2; (try dsimp only); (try k_sweep); (try k_fold))
      k_with "M item" => (k_dflt (refine' item_last ?N ?hm iW ?hk ?_ ?hs; (case N => k_asm); (case hm => k_mem); (case hk => rfl); (case hs => with_unfolding_all rfl); k_whole; intro te'))
      k_steps
      rename Fr base _ _ _ => kF
      rename News base _ _ _ => kN
      have ef := fullU H.pq hlow hbr
      refine hret _ _ _ T' us c kF ?_ (fun p hp => kN p ?_) hsub (ef ▸ hdat) hap ?_
      · intro y g1 g2 g3
        simp only [if_neg g1, if_neg g2, if_neg g3]
        exact (congrFun em y).symm.trans (hsame y g1 g2 g3)
      · simp only [List.mem_append, List.mem_cons] at hp ⊢
        rcases hp with h | h | h | h <;> simp [h]
      · have e1 := hdat.length
        rw [List.length_map, usU, List.length_map, List.length_range] at e1
        omega
    · have hlow' : ∀ j : Nat, j < i + 1 → nU pp q sg (aheadAt pp q sg b + (j : Int)) ≤ b + 11 := fun j hj => by
        rcases Nat.lt_succ_iff_lt_or_eq.mp hj with h | rfl
        · exact hlow j h
        · exact Int.not_lt.mp hbr
      have hul : us.toArray.size ≤ sizeLine := by
        have e1 := hdat.length
        rw [List.length_map, usU, List.length_map, List.length_range] at e1
        rw [List.size_toArray, e1, show sizeLine = 16777216 from rfl]; omega
      k_with_none
      k_with "M binaryOp Add int int" => (with_reducible refine add_at eadd ?_)
      k_with "M binaryOp Mult int int" => (with_reducible refine mul_sz zB zA ?_)
      k_with "M call ref" => (walk_at "MINE p"; (case C => exact idU w wA wB (ap1 _ _) (ap2 _ _) H hi12 _ _); walk_at "MINE q"; intro D9 t19 t29 h' tk' TA2 TB2 w1 w2 e1 e2 a1 a2 F' N' l9; rw [e1 wA, e2 wB] at N' l9; clear w1 w2 e1 e2 a1 a2; (try dsimp only); (try k_sweep); (try k_fold))
      k_with "M item" => (k_dflt (refine' item_last ?N ?hm iW ?hk ?_ ?hs; (case N => k_asm); (case hm => k_mem); (case hk => rfl); (case hs => with_unfolding_all rfl); k_whole; intro te'))
      k_steps
      rename_i D2 h2' kF kN l2
      have lt2 := kst_ltOf l2.2
      have lA : ∀ q ∈ TA, @LT.lt Nat _ q.1 D2 := fun q hq => lt2 q (List.mem_append_left _ hq)
      have lB : ∀ q ∈ TB, @LT.lt Nat _ q.1 D2 := fun q hq => lt2 q (List.mem_append_right _ (List.mem_append_left _ hq))
      have lI : @LT.lt Nat _ I D2 := lt2 (I, _) (List.mem_append_right _ (List.mem_append_right _ (.head _)))
      have lU : @LT.lt Nat _ UP D2 := lt2 (UP, _) (List.mem_append_right _ (List.mem_append_right _ (.tail _ (.head _))))
      replace kN := rotU kN
      have hUne : ∀ o o', ∀ p ∈ ((D2, o) :: (I, o') :: (TA ++ (TB ++ T'))), p.1 ≠ UP := fun o o' p hp => by
        rcases List.mem_cons.mp hp with rfl | hp
        · exact Nat.ne_of_gt lU
        rcases List.mem_cons.mp hp with rfl | hp
        · exact hIU.symm
        rcases List.mem_append.mp hp with hp | hp
        · exact (hap.au p hp).symm
        rcases List.mem_append.mp hp with hp | hp
        · exact (hap.bu p hp).symm
        · exact hap.ut p hp
      k_dflt (refine' append_K kF kN (Upd.head (hUne _ _)) ?_ hul)
      intro h3 F3 N3
      clear kN kF l2 lt2
      simp only [List.push_toArray] at N3
      k_with_none
      k_steps
      refine UnrEnd.intro F3 N3 (TA ++ (TB ++ ((UP, listOf (us ++ [Value.ref D2]).toArray (c + 1)) :: (D2, ({ cls := .type "tuple", data := .seq #[Value.int (nU pp q sg (aheadAt pp q sg b + (i : Int))) t19, Value.int (rU pp q sg (aheadAt pp q sg b + (i : Int))) t29] } : Obj)) :: T'))) ?sub ?off ⟨us ++ [Value.ref D2], c + 1, _, rfl, fun p hp => .tail _ (hsub p hp), ?dat, ?ap, ?o2, ?same, hlow'⟩
      case sub =>
        intro p hp
        simp only [List.mem_append, List.mem_cons] at hp ⊢
        rcases hp with h | h | h | h | h | h <;> simp [h]
      case off =>
        intro p hp
        rcases List.mem_append.mp hp with hp | hp
        · exact (hIA p hp).symm
        rcases List.mem_append.mp hp with hp | hp
        · exact (hIB p hp).symm
        rcases List.mem_cons.mp hp with rfl | hp
        · exact hIU
        rcases List.mem_cons.mp hp with rfl | hp
        · exact Nat.ne_of_gt lI
        · exact hoff p hp
      case dat =>
        rw [usU_succ, List.map_append]
        exact (hdat.mono fun _ h => .tail _ h).append (.one (.tuple (vs := [_, _]) (.head _) (.cons (.int _ _) (.cons (.int _ _) .nil))))
      case ap =>
        refine ⟨hap.ab, fun q hq p hp => ?_, fun q hq p hp => ?_, hap.au, hap.bu, fun p hp => ?_⟩
        · rcases List.mem_cons.mp hp with rfl | hp
          · exact Nat.ne_of_gt (lA q hq)
          · exact hap.at' q hq p hp
        · rcases List.mem_cons.mp hp with rfl | hp
          · exact Nat.ne_of_gt (lB q hq)
          · exact hap.bt q hq p hp
        · rcases List.mem_cons.mp hp with rfl | hp
          · exact Nat.ne_of_gt lU
          · exact hap.ut p hp
      case o2 =>
        intro p hp
        rcases List.mem_cons.mp hp with rfl | hp
        · exact Nat.ne_of_gt lI
        · exact hoff p hp
      case same =>
        intro y g1 g2 g3
        simp only [if_neg g1, if_neg g2, if_neg g3]
        exact (congrFun em y).symm.trans (hsame y g1 g2 g3)
end

section
open PySem PySem.Spec PySem.Calls PySem.W PyProof.Rows
set_option maxRecDepth 100000

theorem fill9l : ∀ (w : World), hd.heap_39 w.params = hd.heap_39 w.params ∧ PySem.Challenge.rw_tx0024_01.prog = PySem.Challenge.rw_tx0024_01.prog := by
  k_fill
  intro w; exact ⟨rfl, rfl⟩
local macro_rules | `(tactic| walk_at "binaryOp Mult int int") => `(tactic| k_extra "M binaryOp Mult int int")
local macro_rules | `(tactic| walk_at "binaryOp Add int int") => `(tactic| k_extra "M binaryOp Add int int")
local macro_rules | `(tactic| walk_at "call ref") => `(tactic| k_extra "M call ref")
local macro_rules | `(tactic| walk_at "subscriptTail") => `(tactic| ((with_reducible show wpAny _ _ (subscriptTail _ _ (Value.ref _) (Value.int _ _)) _ _ _); k_extra "M item"))

local macro_rules | `(tactic| passes_own) => `(tactic| assumption)
local macro_rules | `(tactic| k_mem) => `(tactic| (refine List.mem_append_right _ ?_; k_mem))
local macro_rules | `(tactic| k_mem) => `(tactic| assumption)
local macro_rules | `(tactic| k_all) => `(tactic| first | with_reducible assumption | (refine mx_ne ?_; (try simp only [allLt_mx] at *); omega))
local macro_rules | `(tactic| walk_at "pyIter ref") => `(tactic| k_extra "M pyIter")
local macro_rules | `(tactic| walk_at "subscriptTail Name UnaryOp ref int") => `(tactic| k_extra "M item")
local macro_rules | `(tactic| walk_at "MINE p") => `(tactic| (k_here; k_dflt (refine' DivC.use ?C ?hC1 ?hC2 ?B ?F ?X ?N ?T ?hk ?hd ?hu ?_; (case N => k_asm))))
local macro_rules | `(tactic| walk_at "MINE q") => `(tactic| (k_dflt ((case hC1 => assumption); (case hC2 => assumption); (case F => k_asm); (case B => k_asm); (case X => k_asm); (case T => k_asm); (case hk => first | exact rfl | assumption); (case hd => ktr_room); (case hu => ktr_units); k_whole)))
def tL (p q s k : Int) : Int := (s - (p + q) * k) / q
theorem tL_not (p q s k : Int) : Builtin.bitNot (tL p q s k) = nL p q s k := by unfold Builtin.bitNot tL nL; omega
theorem idL (w : World) {news TA TB : List (Addr × Obj)} (wA : W30 TA) (wB : W37 TB) (ap1 : ApartL TA (TB ++ news)) (ap2 : ApartL TB news) {u : Nat} {p q s b : Int} (H : Lw u p q s b) {t : Nat} (ht : t ≤ 12) (ta tb : Tok) :
    DivC w 56 news TA TB [.int ((p + q) * (behindAt p q s b + (t : Int)) - s) ta, .int (-q) tb] (tL p q s (behindAt p q s b + (t : Int))) (-rL p q s (behindAt p q s b + (t : Int))) 107 := by
  have hq := H.pq.hq
  have h := id_low w news TA TB wA.tab wB.tab ap1 ap2 _ _ ta tb (show -q < 0 by omega) (H.fit4 ht)
  obtain ⟨e1, e2⟩ := neg_div (a := (p + q) * (behindAt p q s b + (t : Int)) - s) (b := -q) (by omega)
  rw [← e1, ← e2, Int.neg_neg, Int.neg_sub] at h
  exact h
theorem not_at {prog : Program} {w : World} {A : Around} {E : Value → Shared → Prop} {s : Shared} {a c : Int} {t : Tok} {Q : Value → Shared → Prop} (e : Builtin.bitNot a = c) (h : Q (.int c s.toks) { s with toks := s.toks + 1 }) : wpAny (model prog w) A (unaryOp .Invert (.int a t)) Q E s := invert_int (by rw [e]; exact h)
local macro_rules | `(tactic| walk_at "unaryOp Invert int") => `(tactic| k_extra "M Invert")
structure LqJ (TA TB T : List (Addr × Obj)) (UP I : Addr) (m₀ : Str → Option Value) (p q s b : Int) (i : Nat) (m : Str → Option Value) (us : List Value) (c : Nat) (T' : List (Addr × Obj)) : Prop where
  sub : ∀ p ∈ T, p ∈ T'
  dat : DatAll T' us ((usL p q s b i).map pairD)
  ap : Ap TA TB UP T'
  off : ∀ p ∈ T', p.1 ≠ I
  same : ∀ y : PySem.Str, y ≠ "turn" → y ≠ "turned" → y ≠ "rest" → m y = m₀ y
  low : ∀ j : Nat, j < i → nL p q s (behindAt p q s b + (j : Int)) ≤ b + 11

set_option maxHeartbeats 4000000 in
theorem loopL (w : World) (TA TB T : List (Addr × Obj)) (UP W : Addr) (vW : List Value) (cW : Nat) (nm pr bd sc dec ret tp tsc bind pos)
    (he : Stmt.FunctionDef nm pr bd dec ret tp sc tsc bind pos = stAt 11) (tg it body els fp) (hb : Stmt.For tg it body els fp = bd.getD 13 default)
    {p : Program} {loose : List Str} {mean : ExcName → Option Value} {mg mb : Str → Option Value} {dp un : Nat} {gd : Option (List Code)} {fa : Addr} {ccd : Value} {A₀ : Around} {base : Heap} {L : Addr} {m₀ : Str → Option Value} {s : Shared} {Q : Flow → Shared → Prop} {E : Value → Shared → Prop} (o2 o3 : Obj)
    (u : Nat) (pp q sg b : Int) (H : Lw u pp q sg b) (t2 t3 ta tq : Tok)
    (d2 : o2.data = .cell (some (.int (pp + q) t2))) (d3 : o3.data = .cell (some (.int sg t3)))
    (h2 : (L + 1 + 1, o2) ∈ T) (h3 : (L + 1 + 1 + 1, o3) ∈ T) (hW : (W, listOf vW.toArray cW) ∈ T) (iW : IntsAre vW (win b))
    (wA : W30 TA) (wB : W37 TB) (ap : Ap TA TB UP T)
    (hC1 : CodeHd base 34 30) (hC2 : CodeHd base 41 37) (B : Below A₀ base [] base)
    (mW : m₀ "window" = some (.ref W)) (mU : m₀ "under" = some (.ref UP)) (mA : m₀ "behind" = some (.int (behindAt pp q sg b) ta)) (mq : m₀ "q" = some (.int q tq)) (F : Fr base L s.heap m₀) (X : (hd.heap_39 w.params).In base)
    (N : News base L s.heap (TA ++ (TB ++ ((UP, listOf #[] 0) :: T))))
    (Tp : Top p loose mean mg mb base) (hd : dp + 120 < recursionLimit) (hu : un + 8 * 120 < cLine)
    (hE : PassesOwn (model PR w) (ktrTop dp un gd nm sc L fa ccd (lawCl L) []) (envX nm sc L fa ccd (lawCl L)) E)
    (hret : ∀ h' tk m' T' us c, Fr base L h' m' → (∀ y : PySem.Str, y ≠ "turn" → y ≠ "turned" → y ≠ "rest" → m' y = m₀ y) → News base L h' (TA ++ (TB ++ ((UP, listOf us.toArray c) :: T'))) → (∀ p ∈ T, p ∈ T') → DatAll T' us (((yoursOf pp q sg b).map fun n => (n, pp - leftAt pp q sg n)).map pairD) → Ap TA TB UP T' → us.length ≤ 12 → Q .next { s with heap := h', toks := tk }) :
    wpAny (model PR w) (ktrTop dp un gd nm sc L fa ccd (lawCl L) []) (exec (Stmt.For tg it body els fp) (envX nm sc L fa ccd (lawCl L))) Q E s := by
  injection he with e1 e2 e3 e4 e5 e6 e7 e8 e9 e10
  clear e4 e5 e6 e8 e9 e10
  subst e1 e2 e3 e7
  injection hb with e1 e2 e3 e4 e5
  subst e1 e2 e3 e4 e5
  k_with_none
  k_with "M pyIter" => (refine stopped ?_)
  k_steps
  refine go_on ?_
  rename_i hR hF hN hKp
  refine iter_rangeUnr (n := 13) rfl hR (by decide) (by decide) hF hN fun I hI => rr_ind (fun i m nx => ∃ us c T', nx = TA ++ (TB ++ ((UP, listOf us.toArray c) :: T')) ∧ LqJ TA TB T UP I m₀ pp q sg b i m us c T') ?stop ?turn 13 0 (Nat.zero_add 13) _ _ ?start
  case start => exact ⟨[], 0, T, rfl, fun _ h => h, .nil, ap, fun p hp => Nat.ne_of_lt (hI p (List.mem_append_right _ (List.mem_append_right _ (.tail _ hp)))), fun _ _ _ _ => rfl, fun _ h => absurd h (Nat.not_lt_zero _)⟩
  case stop =>
    intro m nx h tk hJ
    obtain ⟨us, c, T', rfl, J⟩ := hJ
    exact absurd (endL H.pq 12 (J.low 12 (by decide))) (by decide)
  case turn =>
    intro i m1 nx t hh tk1 hi hJ F1 N1
    obtain ⟨us, c, T', rfl, J⟩ := hJ
    obtain ⟨hsub, hdat, hap, hoff, hsame, hlow⟩ := J
    have mW1 := (hsame "window" (by decide) (by decide) (by decide)).trans mW
    have mU1 := (hsame "under" (by decide) (by decide) (by decide)).trans mU
    have mA1 := (hsame "behind" (by decide) (by decide) (by decide)).trans mA
    have mq1 := (hsame "q" (by decide) (by decide) (by decide)).trans mq
    have em := canon6 mW1 mU1 mA1 mq1 mU1 mA1
    rw [em] at F1
    replace h2 := hsub _ h2
    replace h3 := hsub _ h3
    replace hW := hsub _ hW
    replace N1 := rotI N1
    change Fr base L hh _ at F1
    change News base L hh _ at N1
    clear hF hN hKp hR
    have hi12 : i ≤ 12 := by omega
    have zB := H.szB
    have zA := H.szl hi12
    have hIA : ∀ q ∈ TA, I ≠ q.1 := fun q hq => Nat.ne_of_gt (hI q (List.mem_append_left _ hq))
    have hIB : ∀ q ∈ TB, I ≠ q.1 := fun q hq => Nat.ne_of_gt (hI q (List.mem_append_right _ (List.mem_append_left _ hq)))
    have hIU : UP ≠ I := Nat.ne_of_lt (hI (UP, listOf #[] 0) (List.mem_append_right _ (List.mem_append_right _ (.head _))))
    have ap2 : ∀ it o, ApartL TB ((I, it) :: (UP, o) :: T') := fun it o q hq p hp => by
      rcases List.mem_cons.mp hp with rfl | hp
      · exact hIB q hq
      rcases List.mem_cons.mp hp with rfl | hp
      · exact hap.bu q hq
      · exact hap.bt q hq p hp
    have ap1 : ∀ it o, ApartL TA (TB ++ ((I, it) :: (UP, o) :: T')) := fun it o => hap.ab.app fun q hq p hp => by
      rcases List.mem_cons.mp hp with rfl | hp
      · exact hIA q hq
      rcases List.mem_cons.mp hp with rfl | hp
      · exact hap.au q hq
      · exact hap.at' q hq p hp
    have eadd : behindAt pp q sg b + (0 + (i : Int)) = behindAt pp q sg b + (i : Int) := by rw [Int.zero_add]
    by_cases hbr : nL pp q sg (behindAt pp q sg b + (i : Int)) > b + 11
    · k_with_none
      k_with "M binaryOp Add int int" => (with_reducible refine add_at eadd ?_)
      k_with "M binaryOp Mult int int" => (with_reducible refine mul_sz zB zA ?_)
      k_with "M Invert" => (with_reducible refine not_at (tL_not _ _ _ _) ?_)
      k_with "M call ref" => (walk_at "MINE p"; (case C => exact idL w wA wB (ap1 _ _) (ap2 _ _) H hi12 _ _); walk_at "MINE q"; intro D9 t19 t29 h' tk' TA2 TB2 w1 w2 e1 e2 a1 a2 F' N' l9; rw [e1 wA, e2 wB] at N' l9; clear w1 w2 e1 e2 a1 a2; (try dsimp only); (try k_sweep); (try k_fold))
      k_with "M item" => (k_dflt (refine' item_last ?N ?hm iW ?hk ?_ ?hs; (case N => k_asm); (case hm => k_mem); (case hk => rfl); (case hs => with_unfolding_all rfl); k_whole; intro te'))
      k_steps
      rename Fr base _ _ _ => kF
      rename News base _ _ _ => kN
      have ef := fullL H.pq hlow hbr
      refine hret _ _ _ T' us c kF ?_ (fun p hp => kN p ?_) hsub (ef ▸ hdat) hap ?_
      · intro y g1 g2 g3
        simp only [if_neg g1, if_neg g2, if_neg g3]
        exact (congrFun em y).symm.trans (hsame y g1 g2 g3)
      · simp only [List.mem_append, List.mem_cons] at hp ⊢
        rcases hp with h | h | h | h <;> simp [h]
      · have e1 := hdat.length
        rw [List.length_map, usL, List.length_map, List.length_range] at e1
        omega
    · have hlow' : ∀ j : Nat, j < i + 1 → nL pp q sg (behindAt pp q sg b + (j : Int)) ≤ b + 11 := fun j hj => by
        rcases Nat.lt_succ_iff_lt_or_eq.mp hj with h | rfl
        · exact hlow j h
        · exact Int.not_lt.mp hbr
      have hul : us.toArray.size ≤ sizeLine := by
        have e1 := hdat.length
        rw [List.length_map, usL, List.length_map, List.length_range] at e1
        rw [List.size_toArray, e1, show sizeLine = 16777216 from rfl]; omega
      k_with_none
      k_with "M binaryOp Add int int" => (with_reducible refine add_at eadd ?_)
      k_with "M binaryOp Mult int int" => (with_reducible refine mul_sz zB zA ?_)
      k_with "M Invert" => (with_reducible refine not_at (tL_not _ _ _ _) ?_)
      k_with "M call ref" => (walk_at "MINE p"; (case C => exact idL w wA wB (ap1 _ _) (ap2 _ _) H hi12 _ _); walk_at "MINE q"; intro D9 t19 t29 h' tk' TA2 TB2 w1 w2 e1 e2 a1 a2 F' N' l9; rw [e1 wA, e2 wB] at N' l9; clear w1 w2 e1 e2 a1 a2; (try dsimp only); (try k_sweep); (try k_fold))
      k_with "M item" => (k_dflt (refine' item_last ?N ?hm iW ?hk ?_ ?hs; (case N => k_asm); (case hm => k_mem); (case hk => rfl); (case hs => with_unfolding_all rfl); k_whole; intro te'))
      k_steps
      rename_i D2 h2' kF kN l2
      have lt2 := kst_ltOf l2.2
      have lA : ∀ q ∈ TA, @LT.lt Nat _ q.1 D2 := fun q hq => lt2 q (List.mem_append_left _ hq)
      have lB : ∀ q ∈ TB, @LT.lt Nat _ q.1 D2 := fun q hq => lt2 q (List.mem_append_right _ (List.mem_append_left _ hq))
      have lI : @LT.lt Nat _ I D2 := lt2 (I, _) (List.mem_append_right _ (List.mem_append_right _ (.head _)))
      have lU : @LT.lt Nat _ UP D2 := lt2 (UP, _) (List.mem_append_right _ (List.mem_append_right _ (.tail _ (.head _))))
      replace kN := rotU kN
      have hUne : ∀ o o', ∀ p ∈ ((D2, o) :: (I, o') :: (TA ++ (TB ++ T'))), p.1 ≠ UP := fun o o' p hp => by
        rcases List.mem_cons.mp hp with rfl | hp
        · exact Nat.ne_of_gt lU
        rcases List.mem_cons.mp hp with rfl | hp
        · exact hIU.symm
        rcases List.mem_append.mp hp with hp | hp
        · exact (hap.au p hp).symm
        rcases List.mem_append.mp hp with hp | hp
        · exact (hap.bu p hp).symm
        · exact hap.ut p hp
      k_dflt (refine' append_K kF kN (Upd.head (hUne _ _)) ?_ hul)
      intro h3 F3 N3
      clear kN kF l2 lt2
      simp only [List.push_toArray] at N3
      k_with_none
      k_steps
      obtain ⟨tz, N3⟩ : ∃ tz : Tok, News base L h3 ((UP, listOf (us ++ [Value.ref D2]).toArray (c + 1)) :: (D2, ({ cls := .type "tuple", data := .seq #[Value.int (nL pp q sg (behindAt pp q sg b + (i : Int))) tz, Value.int (-rL pp q sg (behindAt pp q sg b + (i : Int))) t29] } : Obj)) :: (I, _) :: (TA ++ (TB ++ T'))) := ⟨_, N3⟩
      refine UnrEnd.intro F3 N3 (TA ++ (TB ++ ((UP, listOf (us ++ [Value.ref D2]).toArray (c + 1)) :: (D2, ({ cls := .type "tuple", data := .seq #[Value.int (nL pp q sg (behindAt pp q sg b + (i : Int))) tz, Value.int (-rL pp q sg (behindAt pp q sg b + (i : Int))) t29] } : Obj)) :: T'))) ?sub ?off ⟨us ++ [Value.ref D2], c + 1, _, rfl, fun p hp => .tail _ (hsub p hp), ?dat, ?ap, ?o2, ?same, hlow'⟩
      case sub =>
        intro p hp
        simp only [List.mem_append, List.mem_cons] at hp ⊢
        rcases hp with h | h | h | h | h | h <;> simp [h]
      case off =>
        intro p hp
        rcases List.mem_append.mp hp with hp | hp
        · exact (hIA p hp).symm
        rcases List.mem_append.mp hp with hp | hp
        · exact (hIB p hp).symm
        rcases List.mem_cons.mp hp with rfl | hp
        · exact hIU
        rcases List.mem_cons.mp hp with rfl | hp
        · exact Nat.ne_of_gt lI
        · exact hoff p hp
      case dat =>
        rw [usL_succ, List.map_append]
        exact (hdat.mono fun _ h => .tail _ h).append (.one (.tuple (vs := [_, _]) (.head _) (.cons (.int _ _) (.cons (.int _ _) .nil))))
      case ap =>
        refine ⟨hap.ab, fun q hq p hp => ?_, fun q hq p hp => ?_, hap.au, hap.bu, fun p hp => ?_⟩
        · rcases List.mem_cons.mp hp with rfl | hp
          · exact Nat.ne_of_gt (lA q hq)
          · exact hap.at' q hq p hp
        · rcases List.mem_cons.mp hp with rfl | hp
          · exact Nat.ne_of_gt (lB q hq)
          · exact hap.bt q hq p hp
        · rcases List.mem_cons.mp hp with rfl | hp
          · exact Nat.ne_of_gt lU
          · exact hap.ut p hp
      case o2 =>
        intro p hp
        rcases List.mem_cons.mp hp with rfl | hp
        · exact Nat.ne_of_gt lI
        · exact hoff p hp
      case same =>
        intro y g1 g2 g3
        simp only [if_neg g1, if_neg g2, if_neg g3]
        exact (congrFun em y).symm.trans (hsame y g1 g2 g3)
end

section
open PySem PySem.Spec PySem.Calls PySem.W PyProof.Rows PyProof.Rows.LCg
set_option maxRecDepth 100000

theorem fill9i : ∀ (w : World), hd.heap_39 w.params = hd.heap_39 w.params ∧ PySem.Challenge.rw_tx0024_01.prog = PySem.Challenge.rw_tx0024_01.prog := by
  k_fill
  intro w; exact ⟨rfl, rfl⟩

local macro_rules | `(tactic| passes_own) => `(tactic| assumption)
local macro_rules | `(tactic| k_mem) => `(tactic| (refine List.mem_append_right _ ?_; k_mem))
local macro_rules | `(tactic| k_mem) => `(tactic| assumption)
local macro_rules | `(tactic| k_all) => `(tactic| first | with_reducible assumption | (refine mx_ne ?_; (try simp only [allLt_mx] at *); omega))

local macro_rules | `(tactic| walk_at "eval ListComp") => `(tactic| k_extra "M LC")
local macro_rules | `(tactic| walk_at "compareOp NotEq ref ref") => `(tactic| k_extra "M NE")
theorem some_int {vs : List Value} {ns : List Int} {i : Nat} {x : Value} (hi : IntsAre vs ns) (h : vs[i]? = some x) : ∃ n t, ns[i]? = some n ∧ x = .int n t := by
  have hl : i < ns.length := by rw [← hi.length]; exact (List.getElem?_eq_some_iff.mp h).1
  obtain ⟨t, e⟩ := ints_get hi (List.getElem?_eq_getElem hl)
  exact ⟨_, t, List.getElem?_eq_getElem hl, Option.some.inj (h.symm.trans e)⟩
open Classical in
theorem kqd_same {prog : Program} {w : World} {A : Around} {E : Value → Shared → Prop} {s : Shared} {h₀ : Heap} {L a b : Addr} {oa ob : Obj} {xs ys : List Value} {ka kb : Nat} {ds es : List Dat} {news : List (Addr × Obj)} {Q : Value → Shared → Prop}
    (N : News h₀ L s.heap news) (ma : (a, oa) ∈ news) (ca : oa.cls = .type "list") (da : oa.data = .seq xs.toArray ka) (Da : DatAll news xs ds) (mb : (b, ob) ∈ news) (cb : ob.cls = .type "list") (db : ob.data = .seq ys.toArray kb) (Db : DatAll news ys es)
    (e : ds = es) (ha : ∀ d ∈ ds, kqdOk 8 d = true) (hu : A.units + 64 < cLine) (h : Q (.bool false) s) : wpAny (model prog w) A (compareOp .NotEq (.ref a) (.ref b)) Q E s := by
  refine kqd_ne N ma ca da Da (fun _ h => h) mb cb db Db (fun _ h => h) ha (e ▸ ha) hu ?_
  rw [decide_eq_true e]; exact h
theorem pairs_ok (l : List (Int × Int)) : ∀ d ∈ l.map pairD, kqdOk 8 d = true := fun d hd => by
  obtain ⟨x, _, rfl⟩ := List.mem_map.mp hd
  rfl
theorem zadd {W : List Int} {i : Nat} {n : Int} {f : Int → Bool} {g : Int → Int × Int} (hn : W[i]? = some n) (hf : f n = true) : (((W.take (i + 1)).filter f).map g).map pairD = (((W.take i).filter f).map g).map pairD ++ [pairD (g n)] := by
  rw [List.take_add_one, hn, List.filter_append]; simp [hf]
theorem zskip {W : List Int} {i : Nat} {n : Int} {f : Int → Bool} {g : Int → Int × Int} (hn : W[i]? = some n) (hf : f n = false) : (((W.take (i + 1)).filter f).map g).map pairD = (((W.take i).filter f).map g).map pairD := by
  rw [List.take_add_one, hn, List.filter_append]; simp [hf]
theorem zend_new {h₀ : Heap} {L : Addr} {m : Str → Option Value} {own news' : List (Addr × Obj)} {C D T2 : Addr} {oC o : Obj} {ys : List Value} {s₁ : Shared} {Jn : List (Addr × Obj) → Prop} {h2 : Heap} {tk : Nat}
    (F : Fr h₀ L h2 m) (N : News h₀ L h2 ((T2, o) :: (C, oC) :: (D, lst ys) :: (own ++ news'))) (l : @LT.lt Nat _ C T2 ∧ @LT.lt Nat _ D T2 ∧ AllLt T2 (own ++ news')) (off : ∀ p ∈ news', p.1 ≠ C ∧ p.1 ≠ D ∧ ∀ q ∈ own, p.1 ≠ q.1) (hJ : Jn ((T2, o) :: news')) :
    ZEnd h₀ L m own C oC D (lst ys) s₁ Jn { s₁ with heap := h2, toks := tk } := by
  refine ⟨h2, tk, (T2, o) :: news', rfl, F, fun p hp => N p ?_, fun p hp => ?_, hJ⟩
  · simp only [List.mem_append, List.mem_cons] at hp ⊢
    rcases hp with h | h | h | h | h <;> simp [h]
  · rcases List.mem_cons.mp hp with rfl | hp
    · exact ⟨Nat.ne_of_gt l.1, Nat.ne_of_gt l.2.1, fun q hq => Nat.ne_of_gt (kst_ltOf l.2.2 q (List.mem_append_left _ hq))⟩
    · exact off p hp
def ZJ (news : List (Addr × Obj)) (b : Int) (f : Int → Bool) (g : Int → Int × Int) (i : Nat) (ys : List Value) (news' : List (Addr × Obj)) : Prop :=
  (∀ p ∈ news, p ∈ news') ∧ DatAll news' ys (((((win b).take i).filter f).map g).map pairD)

set_option maxHeartbeats 4000000 in
theorem ifU (w : World) (UP W LF : Addr) (vW vL us : List Value) (cW cu : Nat) (nm pr bd sc dec ret tp tsc bind pos)
    (he : Stmt.FunctionDef nm pr bd dec ret tp sc tsc bind pos = stAt 11) (ts bo el ip) (hb : Stmt.If ts bo el ip = bd.getD 15 default)
    {p : Program} {loose : List Str} {mean : ExcName → Option Value} {mg mb : Str → Option Value} {dp un : Nat} {gd : Option (List Code)} {fa : Addr} {ccd : Value} {base : Heap} {L : Addr} {m : Str → Option Value} {s : Shared} {Q : Flow → Shared → Prop} {E : Value → Shared → Prop} (o1 : Obj)
    (u : Nat) (pp q sg b : Int) (H : Lw u pp q sg b) (t1 : Tok) (news : List (Addr × Obj))
    (d1 : o1.data = .cell (some (.int pp t1))) (h1 : (L + 1, o1) ∈ news) (hW : (W, listOf vW.toArray cW) ∈ news) (iW : IntsAre vW (win b))
    (hL : (LF, lst vL) ∈ news) (iL : IntsAre vL ((win b).map fun n => leftAt pp q sg n))
    (hU : (UP, listOf us.toArray cu) ∈ news)
    (dU : DatAll news us (((mineOf pp q sg b).map fun n => (n, leftAt pp q sg n)).map pairD))
    (mW : m "window" = some (.ref W)) (mU : m "upper" = some (.ref UP)) (mL : m "lefts" = some (.ref LF)) (F : Fr base L s.heap m) (X : (hd.heap_39 w.params).In base)
    (N : News base L s.heap news)
    (Tp : Top p loose mean mg mb base) (hd : dp + 120 < recursionLimit) (hu : un + 8 * 120 < cLine)
    (hE : PassesOwn (model PR w) (ktrTop dp un gd nm sc L fa ccd (lawCl L) []) (envX nm sc L fa ccd (lawCl L)) E)
    (hret : ∀ h' tk news', Fr base L h' m → News base L h' news' → (∀ p ∈ news, p ∈ news') → Q .next { s with heap := h', toks := tk }) :
    wpAny (model PR w) (ktrTop dp un gd nm sc L fa ccd (lawCl L) []) (exec (Stmt.If ts bo el ip) (envX nm sc L fa ccd (lawCl L))) Q E s := by
  injection he with e1 e2 e3 e4 e5 e6 e7 e8 e9 e10
  clear e4 e5 e6 e8 e9 e10
  subst e1 e2 e3 e7
  injection hb with e1 e2 e3 e4
  subst e1 e2 e3 e4
  have em := canon6 mW mU mL mW mU mL
  rw [em] at F
  k_with_none
  k_with "M LC" => (refine stopped ?_)
  k_steps
  refine go_on ?_
  have hWm : ∀ {l : List (Addr × Obj)}, (∀ p ∈ news, p ∈ l) → (W, listOf vW.toArray cW) ∈ l ∧ (LF, lst vL) ∈ l := fun h => ⟨h _ hW, h _ hL⟩
  k_dflt (refine' zip_comp (l1 := W) (l2 := LF) (lo1 := listOf vW.toArray cW) (lo2 := lst vL) (xs := vW) (zs := vL) (ZJ news b (lowF pp q sg) (fun n => (n, leftAt pp q sg n))) ?hh ?F ?N rfl rfl rfl rfl (fun _ _ _ hJ => hWm hJ.1) ?hlen ?hsz ?J0 ?hclos ?hcell ?hkind ?hnames ?hxa ?hxb ?hab ?hiter ?turn ?fin ?hs)
  case hh => exact rfl
  case F => k_asm
  case N => k_asm
  case hlen => rw [iL.length, List.length_map, iW.length]
  case hsz => rw [iW.length, win_length]; decide
  case J0 => exact ⟨fun _ h => h, .nil⟩
  case hclos => exact rfl
  case hcell => decide
  case hkind => exact rfl
  case hnames => decide
  case hxa => exact rfl
  case hxb => exact rfl
  case hab => decide
  case hs => intro x; rfl
  case hiter =>
    intro Q' hq
    k_with_none
    k_steps
    exact hq
  case turn =>
    intro g i x y ys news' own C oC D m₂ h tk E' hx hy hJ hC ha hb2 F' N' ne1 o1' o2'
    obtain ⟨n, tn, hn, rfl⟩ := some_int iW hx
    obtain ⟨l, tl, hl, rfl⟩ := some_int iL hy
    rw [List.getElem?_map, hn] at hl
    obtain rfl := Option.some.inj hl
    obtain ⟨hsub, hdat⟩ := hJ
    replace h1 := hsub _ h1
    by_cases hlt : leftAt pp q sg n < pp
    · k_with_none
      k_steps
      rename_i T2 h2 kF kN l2
      refine zend_new kF kN l2 o2' ⟨fun p hp => .tail _ (hsub p hp), ?_⟩
      rw [zadd hn (show lowF pp q sg n = true from decide_eq_true hlt)]
      exact (hdat.mono fun _ h => .tail _ h).append (.one (.tuple (vs := [Value.int n tn, Value.int (leftAt pp q sg n) tl]) (.head _) (.cons (.int _ _) (.cons (.int _ _) .nil))))
    · k_with_none
      k_steps
      refine ⟨h, tk, news', rfl, F', N', o2', hsub, ?_⟩
      rw [zskip hn (show lowF pp q sg n = false from decide_eq_false hlt)]
      exact hdat
  case fin =>
    intro D h tk ys news' F' N' o1' hJ
    obtain ⟨hsub, hdat⟩ := hJ
    k_with_none
    k_with "M NE" => (refine stopped ?_)
    k_steps
    refine go_on ?_
    refine kqd_same N' (.tail _ (hsub _ hU)) rfl rfl ((dU.mono hsub).mono fun _ h => .tail _ h) (.head _) rfl rfl (hdat.mono fun _ h => .tail _ h) (by rw [iW.length, List.take_length]; rfl) (pairs_ok _) ?hu9 ?_
    case hu9 => ktr_units
    k_with_none
    k_steps
    rw [← em] at F'
    exact hret _ _ _ F' N' fun p hp => .tail _ (hsub p hp)
end

section
open PySem PySem.Spec PySem.Calls PySem.W PyProof.Rows PyProof.Rows.LCg
set_option maxRecDepth 100000
local macro_rules | `(tactic| walk_at "MINE pad") => `(tactic| fail "pad")

theorem fill9j : ∀ (w : World), hd.heap_39 w.params = hd.heap_39 w.params ∧ PySem.Challenge.rw_tx0024_01.prog = PySem.Challenge.rw_tx0024_01.prog := by
  k_fill
  intro w; exact ⟨rfl, rfl⟩

local macro_rules | `(tactic| passes_own) => `(tactic| assumption)
local macro_rules | `(tactic| k_mem) => `(tactic| (refine List.mem_append_right _ ?_; k_mem))
local macro_rules | `(tactic| k_mem) => `(tactic| assumption)
local macro_rules | `(tactic| k_all) => `(tactic| first | with_reducible assumption | (refine mx_ne ?_; (try simp only [allLt_mx] at *); omega))

local macro_rules | `(tactic| walk_at "eval ListComp") => `(tactic| k_extra "M LC")
local macro_rules | `(tactic| walk_at "compareOp NotEq ref ref") => `(tactic| k_extra "M NE")
set_option maxHeartbeats 4000000 in
theorem ifL (w : World) (UP W LF : Addr) (vW vL us : List Value) (cW cu : Nat) (nm pr bd sc dec ret tp tsc bind pos)
    (he : Stmt.FunctionDef nm pr bd dec ret tp sc tsc bind pos = stAt 11) (ts bo el ip) (hb : Stmt.If ts bo el ip = bd.getD 16 default)
    {p : Program} {loose : List Str} {mean : ExcName → Option Value} {mg mb : Str → Option Value} {dp un : Nat} {gd : Option (List Code)} {fa : Addr} {ccd : Value} {base : Heap} {L : Addr} {m : Str → Option Value} {s : Shared} {Q : Flow → Shared → Prop} {E : Value → Shared → Prop} (o1 : Obj)
    (u : Nat) (pp q sg b : Int) (H : Lw u pp q sg b) (t1 : Tok) (news : List (Addr × Obj))
    (d1 : o1.data = .cell (some (.int pp t1))) (h1 : (L + 1, o1) ∈ news) (hW : (W, listOf vW.toArray cW) ∈ news) (iW : IntsAre vW (win b))
    (hL : (LF, lst vL) ∈ news) (iL : IntsAre vL ((win b).map fun n => leftAt pp q sg n))
    (hU : (UP, listOf us.toArray cu) ∈ news)
    (dU : DatAll news us (((yoursOf pp q sg b).map fun n => (n, pp - leftAt pp q sg n)).map pairD))
    (mW : m "window" = some (.ref W)) (mU : m "under" = some (.ref UP)) (mL : m "lefts" = some (.ref LF)) (F : Fr base L s.heap m) (X : (hd.heap_39 w.params).In base)
    (N : News base L s.heap news)
    (Tp : Top p loose mean mg mb base) (hd : dp + 120 < recursionLimit) (hu : un + 8 * 120 < cLine)
    (hE : PassesOwn (model PR w) (ktrTop dp un gd nm sc L fa ccd (lawCl L) []) (envX nm sc L fa ccd (lawCl L)) E)
    (hret : ∀ h' tk news', Fr base L h' m → News base L h' news' → (∀ p ∈ news, p ∈ news') → Q .next { s with heap := h', toks := tk }) :
    wpAny (model PR w) (ktrTop dp un gd nm sc L fa ccd (lawCl L) []) (exec (Stmt.If ts bo el ip) (envX nm sc L fa ccd (lawCl L))) Q E s := by
  injection he with e1 e2 e3 e4 e5 e6 e7 e8 e9 e10
  clear e4 e5 e6 e8 e9 e10
  subst e1 e2 e3 e7
  injection hb with e1 e2 e3 e4
  subst e1 e2 e3 e4
  have em := canon6 mW mU mL mW mU mL
  rw [em] at F
  k_with_none
  k_with "M LC" => (refine stopped ?_)
  k_steps
  refine go_on ?_
  have hWm : ∀ {l : List (Addr × Obj)}, (∀ p ∈ news, p ∈ l) → (W, listOf vW.toArray cW) ∈ l ∧ (LF, lst vL) ∈ l := fun h => ⟨h _ hW, h _ hL⟩
  k_dflt (refine' zip_comp (l1 := W) (l2 := LF) (lo1 := listOf vW.toArray cW) (lo2 := lst vL) (xs := vW) (zs := vL) (ZJ news b (fun n => !lowF pp q sg n) (fun n => (n, pp - leftAt pp q sg n))) ?hh ?F ?N rfl rfl rfl rfl (fun _ _ _ hJ => hWm hJ.1) ?hlen ?hsz ?J0 ?hclos ?hcell ?hkind ?hnames ?hxa ?hxb ?hab ?hiter ?turn ?fin ?hs)
  case hh => exact rfl
  case F => k_asm
  case N => k_asm
  case hlen => rw [iL.length, List.length_map, iW.length]
  case hsz => rw [iW.length, win_length]; decide
  case J0 => exact ⟨fun _ h => h, .nil⟩
  case hclos => exact rfl
  case hcell => decide
  case hkind => exact rfl
  case hnames => decide
  case hxa => exact rfl
  case hxb => exact rfl
  case hab => decide
  case hs => intro x; rfl
  case hiter =>
    intro Q' hq
    k_with_none
    k_steps
    exact hq
  case turn =>
    intro g i x y ys news' own C oC D m₂ h tk E' hx hy hJ hC ha hb2 F' N' ne1 o1' o2'
    obtain ⟨n, tn, hn, rfl⟩ := some_int iW hx
    obtain ⟨l, tl, hl, rfl⟩ := some_int iL hy
    rw [List.getElem?_map, hn] at hl
    obtain rfl := Option.some.inj hl
    obtain ⟨hsub, hdat⟩ := hJ
    replace h1 := hsub _ h1
    by_cases hlt : leftAt pp q sg n ≥ pp
    · k_with_none
      k_steps
      rename_i T2 h2 kF kN l2
      obtain ⟨tz, kN⟩ : ∃ tz : Tok, News base L h2 ((T2, ({ cls := .type "tuple", data := .seq #[Value.int n tn, Value.int (pp - leftAt pp q sg n) tz] } : Obj)) :: (C, oC) :: (D, lst ys) :: (own ++ news')) := ⟨_, kN⟩
      refine zend_new kF kN l2 o2' ⟨fun p hp => .tail _ (hsub p hp), ?_⟩
      rw [zadd hn (show (!lowF pp q sg n) = true by rw [lowF, decide_eq_false (by omega : ¬ leftAt pp q sg n < pp)]; rfl)]
      exact (hdat.mono fun _ h => .tail _ h).append (.one (.tuple (vs := [Value.int n tn, Value.int (pp - leftAt pp q sg n) tz]) (.head _) (.cons (.int _ _) (.cons (.int _ _) .nil))))
    · k_with_none
      k_steps
      refine ⟨h, tk, news', rfl, F', N', o2', hsub, ?_⟩
      rw [zskip hn (show (!lowF pp q sg n) = false by rw [lowF, decide_eq_true (by omega : leftAt pp q sg n < pp)]; rfl)]
      exact hdat
  case fin =>
    intro D h tk ys news' F' N' o1' hJ
    obtain ⟨hsub, hdat⟩ := hJ
    k_with_none
    k_with "M NE" => (refine stopped ?_)
    k_steps
    refine go_on ?_
    refine kqd_same N' (.tail _ (hsub _ hU)) rfl rfl ((dU.mono hsub).mono fun _ h => .tail _ h) (.head _) rfl rfl (hdat.mono fun _ h => .tail _ h) (by rw [iW.length, List.take_length]; rfl) (pairs_ok _) ?hu9 ?_
    case hu9 => ktr_units
    k_with_none
    k_steps
    rw [← em] at F'
    exact hret _ _ _ F' N' fun p hp => .tail _ (hsub p hp)
end

section
open PySem PySem.Spec PySem.Calls PySem.W PyProof.Rows PyProof.Rows.LCg
set_option maxRecDepth 100000

theorem fill94 : ∀ (w : World), hd.heap_39 w.params = hd.heap_39 w.params ∧ PySem.Challenge.rw_tx0024_01.prog = PySem.Challenge.rw_tx0024_01.prog := by
  k_fill
  intro w; exact ⟨rfl, rfl⟩
local macro_rules | `(tactic| walk_at "call ref") => `(tactic| k_extra "M call ref")

local macro_rules | `(tactic| passes_own) => `(tactic| assumption)
local macro_rules | `(tactic| k_mem) => `(tactic| (refine List.mem_append_right _ ?_; k_mem))
local macro_rules | `(tactic| k_mem) => `(tactic| assumption)
local macro_rules | `(tactic| k_all) => `(tactic| first | with_reducible assumption | (refine mx_ne ?_; (try simp only [allLt_mx] at *); omega))

local macro_rules | `(tactic| walk_at "SrcLP") => `(tactic| k_extra "M SrcLP")
local macro_rules | `(tactic| walk_at "compareOp NotEq ref ref") => `(tactic| k_extra "M NE")
local macro_rules | `(tactic| walk_at "compareOp Eq ref ref") => `(tactic| k_extra "M EQ")
section
variable {prog : Program} {w : World} {A : Around} {E : Value → Shared → Prop} {s : Shared} {h₀ : Heap} {L : Addr} {m : Str → Option Value} {env : Env} {news : List (Addr × Obj)}
theorem shaped9 {d : Dat} (h : kqdOk 9 d = true) : SeqAt.shaped (kqdP d) = true := by
  have la := kqd_lay 9 d h
  unfold SeqAt.shaped; rw [la.1, Bool.true_and]; exact decide_eq_true (Nat.le_trans la.2 (by decide))
theorem dat_ne {v v' : Value} {d e : Dat} {Q : Value → Shared → Prop} (N : News h₀ L s.heap news) (D1 : DatIn news v d) (D2 : DatIn news v' e) (he : d = e) (hk : kqdOk 9 d = true) (hu : A.units + 64 < cLine) (h : Q (.bool false) s) : wpAny (model prog w) A (compareOp .NotEq v v') Q E s := by
  subst he
  obtain ⟨as, ra⟩ := kqd_in N 9 D1 hk
  obtain ⟨bs, rb⟩ := kqd_in N 9 D2 hk
  refine ne_dataH ra rb (shaped9 hk) (shaped9 hk) hu ?_
  rw [(kqd_eqv 9 d d 9 hk hk).mpr rfl]; exact h
theorem dat_eq {v v' : Value} {d e : Dat} {Q : Value → Shared → Prop} (N : News h₀ L s.heap news) (D1 : DatIn news v d) (D2 : DatIn news v' e) (he : d = e) (hk : kqdOk 9 d = true) (hu : A.units + 64 < cLine) (h : Q (.bool true) s) : wpAny (model prog w) A (compareOp .Eq v v') Q E s := by
  subst he
  obtain ⟨as, ra⟩ := kqd_in N 9 D1 hk
  obtain ⟨bs, rb⟩ := kqd_in N 9 D2 hk
  refine eq_dataH ra rb (shaped9 hk) (shaped9 hk) hu ?_
  rw [(kqd_eqv 9 d d 9 hk hk).mpr rfl]; exact h
theorem ints_dat : ∀ {vs : List Value} {ns : List Int}, IntsAre vs ns → DatAll news vs (ns.map Dat.int)
  | _, _, .nil => .nil
  | _, _, .cons n t r => .cons (.int n t) (ints_dat r)
abbrev datL (ns : List Int) : Dat := .list (ns.map Dat.int)
theorem lst_dat {a : Addr} {vs : List Value} {ns : List Int} {c : Nat} (hm : (a, listOf vs.toArray c) ∈ news) (hi : IntsAre vs ns) : DatIn news (.ref a) (datL ns) := .list hm (ints_dat hi)
theorem tup_dat {D a b : Addr} {d e : Dat} {n : Nat} (hm : (D, ({ cls := .type "tuple", data := .seq #[.ref a, .ref b] n } : Obj)) ∈ news) (ha : DatIn news (.ref a) d) (hb : DatIn news (.ref b) e) : DatIn news (.ref D) (.tuple [d, e]) := .tuple (vs := [.ref a, .ref b]) hm (.cons ha (.cons hb .nil))
theorem pair_ok (xs ys : List Int) : kqdOk 9 (.tuple [datL xs, datL ys]) = true := by
  simp [kqdOk, datL]
theorem dat_pair {v : Value} {x : Int × Int} (h : DatIn news v (pairD x)) : ∃ a n t t', v = .ref a ∧ (a, ({ cls := .type "tuple", data := .seq #[.int x.1 t, .int x.2 t'] n } : Obj)) ∈ news := by
  cases h with
  | tuple hm r =>
    cases r with
    | cons h1 r =>
      cases r with
      | cons h2 r =>
        cases r
        cases h1
        cases h2
        exact ⟨_, _, _, _, rfl, hm⟩
theorem restP {elt : PySem.Expr} {x x₂ : Str} {scope : Scope} {cl : List (Str × Addr)} {Fin : List Value → List (Addr × Obj) → Prop} {us : List Value} {l : List (Int × Int)} {ax : Addr} (hdat : DatAll news us (l.map pairD)) (hS : LCg.SrcAt h₀ ax us.toArray news)
    (turn : ∀ v₁ I oI C oC D m₂ ys h tk (E' : Value → Shared → Prop), NsObj oC m₂ → m₂ x = some v₁ → Fr h₀ L h m → News h₀ L h ((I, oI) :: (C, oC) :: (D, lst ys) :: news) → Off3 I C D news → ((@Ne Nat I C) ∧ (@Ne Nat I D) ∧ (@Ne Nat C D)) →
      wpAny (model prog w) A (eval elt (compEnvC scope cl C env)) (fun y s₂ => y = v₁ ∧ s₂ = { s with heap := h, toks := tk }) E' { s with heap := h, toks := tk })
    (fin : ∀ ys, IntsAre ys (l.map (·.1)) → Fin ys news) :
    LCp.CompRestP prog w A h₀ L m env elt x x₂ scope cl s (LCg.SrcAt h₀ ax us.toArray) (fun i v => us.toArray[i]? = some v) Fin us.toArray.size 0 [] news := by
  have hlen : us.toArray.size = l.length := by rw [List.size_toArray, hdat.length, List.length_map]
  have key : ∀ k i ys, i + k = l.length → IntsAre ys ((l.take i).map (·.1)) → LCp.CompRestP prog w A h₀ L m env elt x x₂ scope cl s (LCg.SrcAt h₀ ax us.toArray) (fun i v => us.toArray[i]? = some v) Fin k i ys news := by
    intro k
    induction k with
    | zero =>
      intro i ys hi hy
      obtain rfl : i = l.length := by omega
      rw [List.take_length] at hy
      exact LCp.CompRestP.zero (fin ys hy)
    | succ k ih =>
      intro i ys hi hy
      refine LCp.CompRestP.succ ?_
      intro v hv
      have hil : i < l.length := by omega
      obtain ⟨v', hv', hd⟩ := hdat.get (k := i) (by rw [List.length_map]; exact hil)
      have hv2 : us[i]? = some v := by simpa using hv
      obtain rfl := Option.some.inj (hv2.symm.trans hv')
      rw [List.getElem_map] at hd
      obtain ⟨a, n, t, t', rfl, hm⟩ := dat_pair hd
      refine ⟨a, _, _, _, n, rfl, hm, rfl, rfl, ?_⟩
      intro I oI C oC D m₂ h tk E' hC hx hx2 F N off ne
      refine wpAny_mono (turn _ I oI C oC D m₂ ys h tk E' hC hx F N off ne) (fun y s₂ hq => ?_) fun _ _ e => e
      obtain ⟨rfl, rfl⟩ := hq
      refine LCg.CompEnd.intro F N news (fun _ h => h) off hS (ih (i + 1) _ (by omega) ?_)
      rw [List.take_add_one, List.getElem?_eq_getElem hil]
      rw [List.map_append]
      exact IntsAre.append hy (.cons l[i].1 t .nil)
  rw [hlen]
  exact key l.length 0 [] (by omega) (by simpa using IntsAre.nil)
end

set_option maxHeartbeats 4000000 in
theorem law4 (w : World) (UP UN W : Addr) (vW us ns : List Value) (cW cu cn : Nat) (a1 a2 : Array Value) (nm pr bd sc dec ret tp tsc bind pos)
    (he : Stmt.FunctionDef nm pr bd dec ret tp sc tsc bind pos = stAt 11) (st : Stmt) (sts : List Stmt) (hb : st :: sts = bd.drop 17)
    {p : Program} {loose : List Str} {mean : ExcName → Option Value} {mg mb : Str → Option Value} {dp un : Nat} {gd : Option (List Code)} {fa : Addr} {ccd : Value} {base : Heap} {L : Addr} {m : Str → Option Value} {s : Shared} {Q : Flow → Shared → Prop} {E : Value → Shared → Prop}
    (pp q sg b : Int) (news : List (Addr × Obj))
    (hW : (W, listOf vW.toArray cW) ∈ news) (iW : IntsAre vW (win b))
    (hU : (UP, listOf us.toArray cu) ∈ news) (hN : (UN, listOf ns.toArray cn) ∈ news) (hA : (37, tabObj a1) ∈ news) (hB : (30, tabObj a2) ∈ news)
    (dU : DatAll news us (((mineOf pp q sg b).map fun n => (n, leftAt pp q sg n)).map pairD)) (dN : DatAll news ns (((yoursOf pp q sg b).map fun n => (n, pp - leftAt pp q sg n)).map pairD))
    (mW : m "window" = some (.ref W)) (mU : m "upper" = some (.ref UP)) (mN : m "under" = some (.ref UN)) (F : Fr base L s.heap m) (X : (hd.heap_39 w.params).In base)
    (N : News base L s.heap news)
    (Tp : Top p loose mean mg mb base) (hd : dp + 120 < recursionLimit) (hu : un + 8 * 120 < cLine)
    (hret : LawEnd base L s Q) :
    wpAny (model PR w) (ktrTop dp un gd nm sc L fa ccd (lawCl L) []) (execs (st :: sts) (envX nm sc L fa ccd (lawCl L))) Q E s := by
  injection he with e1 e2 e3 e4 e5 e6 e7 e8 e9 e10
  clear e4 e5 e6 e8 e9 e10
  subst e1 e2 e3 e7
  injection hb with e1 e2
  subst e1 e2
  rw [canon6 mW mU mN mW mU mN] at F
  have lU : us.toArray.size ≤ sizeLine := by
    have e1 := dU.length
    rw [List.length_map, List.length_map] at e1
    have := mine_len (p := pp) (q := q) (s := sg) (b := b)
    rw [List.size_toArray, e1, show sizeLine = 16777216 from rfl]; omega
  have lN : ns.toArray.size ≤ sizeLine := by
    have e1 := dN.length
    rw [List.length_map, List.length_map] at e1
    have := yours_len (p := pp) (q := q) (s := sg) (b := b)
    rw [List.size_toArray, e1, show sizeLine = 16777216 from rfl]; omega
  k_with_none
  k_with "M SrcLP" => (refine stopped ?_)
  k_steps
  refine go_on ?_
  k_dflt (refine LCp.SrcLP.ledger (by rfl) (by k_asm) (by k_asm) hU lU ?_)
  intro g
  refine restP dU (.inr ⟨_, hU, rfl, _, rfl⟩) ?_ ?_
  · intro v₁ I oI C oC D m₂ ys h tk E' hC hx F' N' off ne
    k_with_none
    k_steps
    all_goals exact ⟨rfl, rfl⟩
  intro ysM iM DM h tk FM NM oM
  have eM : (((mineOf pp q sg b).map fun n => (n, leftAt pp q sg n)).map (·.1)) = mineOf pp q sg b := by rw [List.map_map]; exact List.map_id _
  rw [eM] at iM
  clear eM F N
  dsimp only
  k_with_none
  k_with "M SrcLP" => (refine stopped ?_)
  k_steps
  refine go_on ?_
  k_dflt (refine LCp.SrcLP.ledger (by rfl) (by k_asm) (by k_asm) (.tail _ hN) lN ?_)
  intro g
  refine restP (dN.mono fun _ h => .tail _ h) (.inr ⟨_, .tail _ hN, rfl, _, rfl⟩) ?_ ?_
  · intro v₁ I oI C oC D m₂ ys h tk E' hC hx F' N' off ne
    k_with_none
    k_steps
    all_goals exact ⟨rfl, rfl⟩
  intro ysY iY DY h2 tk2 FY NY oY
  have eY : (((yoursOf pp q sg b).map fun n => (n, pp - leftAt pp q sg n)).map (·.1)) = yoursOf pp q sg b := by rw [List.map_map]; exact List.map_id _
  rw [eY] at iY
  clear eY FM NM
  dsimp only
  have lM9 : (mineOf pp q sg b).length ≤ 1000 := Nat.le_trans mine_len (by decide)
  have lY9 : (yoursOf pp q sg b).length ≤ 1000 := Nat.le_trans yours_len (by decide)
  have lW9 : (win b).length ≤ 1000 := by rw [win_length]; decide
  k_with_none
  k_with "M call ref" => (refine stopped ?_)
  k_steps
  refine go_on ?_
  rename Fr base _ _ _ => kF
  rename News base _ _ _ => kN
  k_dflt (refine' sld w _ W DM vW ysM (win b) (mineOf pp q sg b) cW ysM.length ?hE ?hA iW iM (win_up b) mine_up lW9 lM9 kF X kN Tp rfl ?hd9 ?hu9 ?_)
  case hE => exact .tail _ (.tail _ hW)
  case hA => exact .tail _ (.head _)
  case hd9 => ktr_room
  case hu9 => ktr_units
  intro D1 M1 U1 mv1 uv1 c1 c2 h3 tk3 F1 N1 i1 i2 l1 l2 l3
  rw [dif_win_mine] at i1
  rw [dif_mine_win] at i2
  clear kF kN
  dsimp only
  k_with_none
  k_with "M NE" => (refine stopped ?_)
  k_steps
  refine go_on ?_
  rename_i EM h4 lE TP h5 kF kN lT
  refine dat_ne kN (tup_dat (n := 0) (D := D1) (a := M1) (b := U1) ?m1 (lst_dat (c := c1) ?m2 i1) (lst_dat (c := c2) ?m3 i2)) (tup_dat (n := 0) (a := DY) (b := EM) ?m4 (lst_dat (c := ysY.length) ?m5 iY) (lst_dat (vs := []) (ns := []) (c := 0) ?m6 .nil)) rfl (pair_ok _ _) ?hu9 ?_
  case m1 => repeat (first | exact List.Mem.head _ | refine List.Mem.tail _ ?_)
  case m2 => repeat (first | exact List.Mem.head _ | refine List.Mem.tail _ ?_)
  case m3 => repeat (first | exact List.Mem.head _ | refine List.Mem.tail _ ?_)
  case m4 => repeat (first | exact List.Mem.head _ | refine List.Mem.tail _ ?_)
  case m5 => repeat (first | exact List.Mem.head _ | refine List.Mem.tail _ ?_)
  case m6 => repeat (first | exact List.Mem.head _ | refine List.Mem.tail _ ?_)
  case hu9 => ktr_units
  replace kN : News base L h5 ((DY, lst ysY) :: (DM, lst ysM) :: news) := fun p hp => kN p (.tail _ (.tail _ (.tail _ (.tail _ (.tail _ hp)))))
  clear i1 i2 l1 l2 l3 lE lT
  k_with_none
  k_with "M call ref" => (refine stopped ?_)
  k_steps
  refine go_on ?_
  rename Fr base _ _ _ => kF
  rename News base _ _ _ => kN
  k_dflt (refine' sld w _ DY W ysY vW (yoursOf pp q sg b) (win b) ysY.length cW ?hE ?hA iY iW yours_up (win_up b) lY9 lW9 kF X kN Tp rfl ?hd9 ?hu9 ?_)
  case hE => exact .head _
  case hA => exact .tail _ (.tail _ hW)
  case hd9 => ktr_room
  case hu9 => ktr_units
  intro D2 M2 U2 mv2 uv2 c3 c4 h6 tk6 F2 N2 i1 i2 l1 l2 l3
  rw [dif_yours_win] at i1
  rw [dif_win_yours] at i2
  clear kF kN
  dsimp only
  k_with_none
  k_with "M NE" => (refine stopped ?_)
  k_steps
  refine go_on ?_
  rename_i EM2 h7 lE TP2 h8 kF kN lT
  refine dat_ne kN (tup_dat (n := 0) (D := D2) (a := M2) (b := U2) ?m1 (lst_dat (c := c3) ?m2 i1) (lst_dat (c := c4) ?m3 i2)) (tup_dat (n := 0) (a := EM2) (b := DM) ?m4 (lst_dat (vs := []) (ns := []) (c := 0) ?m6 .nil) (lst_dat (c := ysM.length) ?m5 iM)) rfl (pair_ok _ _) ?hu9 ?_
  case m1 => repeat (first | exact List.Mem.head _ | refine List.Mem.tail _ ?_)
  case m2 => repeat (first | exact List.Mem.head _ | refine List.Mem.tail _ ?_)
  case m3 => repeat (first | exact List.Mem.head _ | refine List.Mem.tail _ ?_)
  case m4 => repeat (first | exact List.Mem.head _ | refine List.Mem.tail _ ?_)
  case m5 => repeat (first | exact List.Mem.head _ | refine List.Mem.tail _ ?_)
  case m6 => repeat (first | exact List.Mem.head _ | refine List.Mem.tail _ ?_)
  case hu9 => ktr_units
  replace kN : News base L h8 ((DY, lst ysY) :: (DM, lst ysM) :: news) := fun p hp => kN p (.tail _ (.tail _ (.tail _ (.tail _ (.tail _ hp)))))
  clear i1 i2 l1 l2 l3 lE lT
  k_with_none
  k_with "M call ref" => (refine stopped ?_)
  k_steps
  refine go_on ?_
  rename Fr base _ _ _ => kF
  rename News base _ _ _ => kN
  k_dflt (refine' sld w _ DM DY ysM ysY (mineOf pp q sg b) (yoursOf pp q sg b) ysM.length ysY.length ?hE ?hA iM iY mine_up yours_up lM9 lY9 kF X kN Tp rfl ?hd9 ?hu9 ?_)
  case hE => exact .tail _ (.head _)
  case hA => exact .head _
  case hd9 => ktr_room
  case hu9 => ktr_units
  intro D3 M3 U3 mv3 uv3 c5 c6 h9 tk9 F3 N3 i1 i2 l1 l2 l3
  rw [dif_mine_yours] at i1
  rw [dif_yours_mine] at i2
  clear kF kN
  dsimp only
  k_with_none
  k_with "M EQ" => (refine stopped ?_)
  k_steps
  refine go_on ?_
  rename_i TP3 h10 kF kN lT
  refine dat_eq kN (tup_dat (n := 0) (D := D3) (a := M3) (b := U3) ?m1 (lst_dat (c := c5) ?m2 i1) (lst_dat (c := c6) ?m3 i2)) (tup_dat (n := 0) (a := DM) (b := DY) ?m4 (lst_dat (c := ysM.length) ?m5 iM) (lst_dat (c := ysY.length) ?m6 iY)) rfl (pair_ok _ _) ?hu9 ?_
  case m1 => repeat (first | exact List.Mem.head _ | refine List.Mem.tail _ ?_)
  case m2 => repeat (first | exact List.Mem.head _ | refine List.Mem.tail _ ?_)
  case m3 => repeat (first | exact List.Mem.head _ | refine List.Mem.tail _ ?_)
  case m4 => repeat (first | exact List.Mem.head _ | refine List.Mem.tail _ ?_)
  case m5 => repeat (first | exact List.Mem.head _ | refine List.Mem.tail _ ?_)
  case m6 => repeat (first | exact List.Mem.head _ | refine List.Mem.tail _ ?_)
  case hu9 => ktr_units
  k_with_none
  k_steps
  exact hret _ _ _ _ a1 a2 kF kN (.tail _ (.tail _ (.tail _ (.tail _ (.tail _ (.tail _ hA)))))) (.tail _ (.tail _ (.tail _ (.tail _ (.tail _ (.tail _ hB))))))
end

section
open PySem PySem.Spec PySem.Calls PySem.W PyProof.Rows PyProof.Rows.LCg
set_option maxRecDepth 100000

theorem fill93 : ∀ (w : World), hd.heap_39 w.params = hd.heap_39 w.params ∧ PySem.Challenge.rw_tx0024_01.prog = PySem.Challenge.rw_tx0024_01.prog := by
  k_fill
  intro w; exact ⟨rfl, rfl⟩
local macro_rules | `(tactic| walk_at "binaryOp Mult int int") => `(tactic| k_extra "M binaryOp Mult int int")
local macro_rules | `(tactic| walk_at "binaryOp Mod int int") => `(tactic| k_extra "M Mod")

local macro_rules | `(tactic| passes_own) => `(tactic| assumption)
local macro_rules | `(tactic| k_mem) => `(tactic| (refine List.mem_append_right _ ?_; k_mem))
local macro_rules | `(tactic| k_mem) => `(tactic| assumption)
local macro_rules | `(tactic| k_all) => `(tactic| first | with_reducible assumption | (refine mx_ne ?_; (try simp only [allLt_mx] at *); omega))

local macro_rules | `(tactic| walk_at "exec If Compare cons nil") => `(tactic| k_extra "M If")
local macro_rules | `(tactic| walk_at "exec If Compare cons") => `(tactic| k_extra "M If")
local macro_rules | `(tactic| walk_at "exec If Compare") => `(tactic| k_extra "M If")
local macro_rules | `(tactic| walk_at "exec If") => `(tactic| k_extra "M If")
set_option maxHeartbeats 4000000 in
theorem law3 (w : World) (UP UN W : Addr) (vW us ns : List Value) (cW cu cn : Nat) (a1 a2 : Array Value) (nm pr bd sc dec ret tp tsc bind pos)
    (he : Stmt.FunctionDef nm pr bd dec ret tp sc tsc bind pos = stAt 11) (st : Stmt) (sts : List Stmt) (hb : st :: sts = bd.drop 14)
    {p : Program} {loose : List Str} {mean : ExcName → Option Value} {mg mb : Str → Option Value} {dp un : Nat} {gd : Option (List Code)} {fa : Addr} {ccd : Value} {base : Heap} {L : Addr} {m : Str → Option Value} {s : Shared} {Q : Flow → Shared → Prop} {E : Value → Shared → Prop} (o1 o2 o3 : Obj)
    (u : Nat) (pp q sg b : Int) (H : Lw u pp q sg b) (t1 t2 t3 : Tok) (news : List (Addr × Obj))
    (d1 : o1.data = .cell (some (.int pp t1))) (d2 : o2.data = .cell (some (.int (pp + q) t2))) (d3 : o3.data = .cell (some (.int sg t3)))
    (h1 : (L + 1, o1) ∈ news) (h2 : (L + 1 + 1, o2) ∈ news) (h3 : (L + 1 + 1 + 1, o3) ∈ news) (hW : (W, listOf vW.toArray cW) ∈ news) (iW : IntsAre vW (win b))
    (hU : (UP, listOf us.toArray cu) ∈ news) (hN : (UN, listOf ns.toArray cn) ∈ news) (hA : (37, tabObj a1) ∈ news) (hB : (30, tabObj a2) ∈ news)
    (dU : DatAll news us (((mineOf pp q sg b).map fun n => (n, leftAt pp q sg n)).map pairD)) (dN : DatAll news ns (((yoursOf pp q sg b).map fun n => (n, pp - leftAt pp q sg n)).map pairD))
    (mW : m "window" = some (.ref W)) (mU : m "upper" = some (.ref UP)) (mN : m "under" = some (.ref UN)) (F : Fr base L s.heap m) (X : (hd.heap_39 w.params).In base)
    (N : News base L s.heap news)
    (Tp : Top p loose mean mg mb base) (hd : dp + 120 < recursionLimit) (hu : un + 8 * 120 < cLine)
    (hE : PassesOwn (model PR w) (ktrTop dp un gd nm sc L fa ccd (lawCl L) []) (envX nm sc L fa ccd (lawCl L)) E)
    (hret : LawEnd base L s Q) :
    wpAny (model PR w) (ktrTop dp un gd nm sc L fa ccd (lawCl L) []) (execs (st :: sts) (envX nm sc L fa ccd (lawCl L))) Q E s := by
  injection he with e1 e2 e3 e4 e5 e6 e7 e8 e9 e10
  clear e4 e5 e6 e8 e9 e10
  subst e1 e2 e3 e7
  injection hb with e1 e2
  subst e1 e2
  rw [canon6 mW mU mN mW mU mN] at F
  have zp := H.szp
  have nB : pp + q ≠ 0 := by have := H.pq.both; omega
  k_with_none
  k_steps
  rename Fr base _ _ _ => kF
  rename News base _ _ _ => kN
  k_dflt (refine LCg.CompSrc.ledger (by rfl) kF kN hW ?hz ?_)
  case hz => (rw [List.size_toArray, iW.length, win_length, show sizeLine = 16777216 from rfl]; omega)
  intro g
  have wl : ∀ n, (sg - pp * n).fmod (pp + q) = leftAt pp q sg n := fun n => Int.fmod_eq_emod_of_nonneg _ (Int.le_of_lt H.pq.both)
  k_dflt (refine kcf_list (fun n => leftAt pp q sg n) iW (fun k t I oI C oC D m' ys h tk E' hk hC hx F' N' off ne hM => ?_) ?_)
  · have zn := H.szn hk
    have wk := wl k
    k_with_none
    k_with "M binaryOp Mult int int" => (with_reducible refine mul_sz zp zn ?_)
    k_with "M Mod" => (with_reducible refine mod_at wk nB ?_)
    k_steps
  · intro ys iL
    k_with_none
    k_with "M If" => (refine stopped ?_)
    k_steps
    refine go_on ?_
    rename_i LF h4 tk4 kF4 kN4 oL
    refine ifU w UP W LF vW ys us cW cu _ _ _ _ _ _ _ _ _ _ rfl _ _ _ _ rfl o1 u pp q sg b H t1 _ d1 (.tail _ h1) (.tail _ hW) iW (.head _) iL (.tail _ hU) (dU.mono fun _ h => .tail _ h) rfl rfl rfl kF4 X kN4 Tp hd hu hE ?_
    intro h5 tk5 n5 F5 N5 sub5
    dsimp only
    k_with_none
    k_with "M If" => (refine stopped ?_)
    k_steps
    refine go_on ?_
    have sb : ∀ p ∈ news, p ∈ n5 := fun p hp => sub5 p (.tail _ hp)
    refine ifL w UN W LF vW ys ns cW cn _ _ _ _ _ _ _ _ _ _ rfl _ _ _ _ rfl o1 u pp q sg b H t1 _ d1 (sb _ h1) (sb _ hW) iW (sub5 _ (.head _)) iL (sb _ hN) (dN.mono sb) rfl rfl rfl F5 X N5 Tp hd hu hE ?_
    intro h6 tk6 n6 F6 N6 sub6
    dsimp only
    have sc : ∀ p ∈ news, p ∈ n6 := fun p hp => sub6 p (sb p hp)
    exact law4 w UP UN W vW us ns cW cu cn a1 a2 _ _ _ _ _ _ _ _ _ _ rfl _ _ rfl pp q sg b n6 (sc _ hW) iW (sc _ hU) (sc _ hN) (sc _ hA) (sc _ hB) (dU.mono sc) (dN.mono sc) rfl rfl rfl F6 X N6 Tp hd hu hret
end

section
open PySem PySem.Spec PySem.Calls PySem.W PyProof.Rows
set_option maxRecDepth 100000

theorem fill92 : ∀ (w : World), hd.heap_39 w.params = hd.heap_39 w.params ∧ PySem.Challenge.rw_tx0024_01.prog = PySem.Challenge.rw_tx0024_01.prog := by
  k_fill
  intro w; exact ⟨rfl, rfl⟩
local macro_rules | `(tactic| walk_at "binaryOp Mult int int") => `(tactic| k_extra "M binaryOp Mult int int")
local macro_rules | `(tactic| walk_at "call ref") => `(tactic| k_extra "M call ref")
local macro_rules | `(tactic| walk_at "exec For Name Call cons nil") => `(tactic| k_extra "M For")

local macro_rules | `(tactic| passes_own) => `(tactic| assumption)
local macro_rules | `(tactic| k_mem) => `(tactic| (refine List.mem_append_right _ ?_; k_mem))
local macro_rules | `(tactic| k_mem) => `(tactic| assumption)
local macro_rules | `(tactic| k_all) => `(tactic| first | with_reducible assumption | (refine mx_ne ?_; (try simp only [allLt_mx] at *); omega))

theorem Warm.mem {P : Addr} {l k : Int} {q : PySem.Str} {T : List (Addr × Obj)} (h : Warm P l k q T) : ∃ a, (P, tabObj a) ∈ T := by
  obtain ⟨c, oc, vs, t, _, _, rfl⟩ := h
  exact ⟨_, .head _⟩
set_option maxHeartbeats 4000000 in
theorem law2 (w : World) (TA TB T : List (Addr × Obj)) (UP W : Addr) (vW us : List Value) (cW cu : Nat) (nm pr bd sc dec ret tp tsc bind pos)
    (he : Stmt.FunctionDef nm pr bd dec ret tp sc tsc bind pos = stAt 11) (st : Stmt) (sts : List Stmt) (hb : st :: sts = bd.drop 11)
    {p : Program} {loose : List Str} {mean : ExcName → Option Value} {mg mb : Str → Option Value} {dp un : Nat} {gd : Option (List Code)} {fa : Addr} {ccd : Value} {A₀ : Around} {base : Heap} {L : Addr} {m : Str → Option Value} {s : Shared} {Q : Flow → Shared → Prop} {E : Value → Shared → Prop} (o1 o2 o3 o4 : Obj)
    (u : Nat) (pp q sg b : Int) (H : Lw u pp q sg b) (t1 t2 t3 t4 tq : Tok)
    (d1 : o1.data = .cell (some (.int pp t1))) (d2 : o2.data = .cell (some (.int (pp + q) t2))) (d3 : o3.data = .cell (some (.int sg t3))) (d4 : o4.data = .cell (some (.int b t4)))
    (h1 : (L + 1, o1) ∈ T) (h2 : (L + 1 + 1, o2) ∈ T) (h3 : (L + 1 + 1 + 1, o3) ∈ T) (h4 : (L + 1 + 1 + 1 + 1, o4) ∈ T) (hW : (W, listOf vW.toArray cW) ∈ T) (iW : IntsAre vW (win b))
    (wA : W30 TA) (wB : W37 TB) (ap : Ap TA TB UP T)
    (dU : DatAll T us (((mineOf pp q sg b).map fun n => (n, leftAt pp q sg n)).map pairD))
    (hC1 : CodeHd base 34 30) (hC2 : CodeHd base 41 37) (B : Below A₀ base [] base)
    (mW : m "window" = some (.ref W)) (mU : m "upper" = some (.ref UP)) (mq : m "q" = some (.int q tq)) (F : Fr base L s.heap m) (X : (hd.heap_39 w.params).In base)
    (N : News base L s.heap (TA ++ (TB ++ ((UP, listOf us.toArray cu) :: T))))
    (Tp : Top p loose mean mg mb base) (hd : dp + 120 < recursionLimit) (hu : un + 8 * 120 < cLine)
    (hE : PassesOwn (model PR w) (ktrTop dp un gd nm sc L fa ccd (lawCl L) []) (envX nm sc L fa ccd (lawCl L)) E)
    (hret : LawEnd base L s Q) :
    wpAny (model PR w) (ktrTop dp un gd nm sc L fa ccd (lawCl L) []) (execs (st :: sts) (envX nm sc L fa ccd (lawCl L))) Q E s := by
  injection he with e1 e2 e3 e4 e5 e6 e7 e8 e9 e10
  clear e4 e5 e6 e8 e9 e10
  subst e1 e2 e3 e7
  injection hb with e1 e2
  subst e1 e2
  rw [canon6 mW mU mq mW mU mq] at F
  have zq := H.szq
  have zb := H.szb
  have hB9 := H.pq.both
  k_with_none
  k_with "M binaryOp Mult int int" => (with_reducible refine mul_sz zq zb ?_)
  k_with "M call ref" => (refine stopped ?_)
  k_steps
  refine go_on ?_
  rename_i UN hx1 lUN hx2 kF kN
  replace kN := rotI kN
  have apN : Ap TA TB UN ((UP, listOf us.toArray cu) :: T) := by
    refine ⟨ap.ab, fun q hq p hp => ?_, fun q hq p hp => ?_, fun q hq => ?_, fun q hq => ?_, fun p hp => ?_⟩
    · rcases List.mem_cons.mp hp with rfl | hp
      · exact ap.au q hq
      · exact ap.at' q hq p hp
    · rcases List.mem_cons.mp hp with rfl | hp
      · exact ap.bu q hq
      · exact ap.bt q hq p hp
    · exact Nat.ne_of_gt (lUN q (List.mem_append_left _ hq))
    · exact Nat.ne_of_gt (lUN q (List.mem_append_right _ (List.mem_append_left _ hq)))
    · exact Nat.ne_of_lt (lUN p (List.mem_append_right _ (List.mem_append_right _ hp)))
  clear lUN
  have ap2 : ApartL TB ((UN, listOf #[] 0) :: (UP, listOf us.toArray cu) :: T) := fun q hq p hp => by
    rcases List.mem_cons.mp hp with rfl | hp
    · exact apN.bu q hq
    · exact apN.bt q hq p hp
  have ap1 : ApartL TA (TB ++ ((UN, listOf #[] 0) :: (UP, listOf us.toArray cu) :: T)) := ap.ab.app fun q hq p hp => by
    rcases List.mem_cons.mp hp with rfl | hp
    · exact apN.au q hq
    · exact apN.at' q hq p hp
  k_dflt (refine' DivC.use (id_any w _ TA TB wA.tab wB.tab ap1 ap2 _ _ _ _ hB9 H.fit3) hC1 hC2 B kF X kN Tp rfl ?hd9 ?hu9 ?_)
  case hd9 => ktr_room
  case hu9 => ktr_units
  intro D9 t19 t29 h9 tk9 TA2 TB2 w1 w2 e1 e2 a1 a2 F9 N9 l9
  rw [e1 wA, e2 wB] at N9
  clear w1 w2 e1 e2 a1 a2 l9 kF kN
  dsimp only
  k_with_none
  k_with "M For" => (refine stopped ?_)
  k_steps
  refine go_on ?_
  rename Fr base _ _ _ => kF
  rename News base _ _ _ => kN
  refine loopL w TA TB ((UP, listOf us.toArray cu) :: T) UN W vW cW _ _ _ _ _ _ _ _ _ _ rfl _ _ _ _ _ rfl o2 o3 u pp q sg b H t2 t3 _ tq d2 d3 (.tail _ h2) (.tail _ h3) (.tail _ hW) iW wA wB apN hC1 hC2 B rfl rfl rfl rfl kF X (fun p hp => kN p (.tail _ hp)) Tp hd hu hE ?_
  intro h5 tk5 m5 T5 ns cn F5 same N5 sub5 dN apL lenN
  dsimp only
  have sb : ∀ p ∈ T, p ∈ TA ++ (TB ++ ((UN, listOf ns.toArray cn) :: T5)) := fun p hp => List.mem_append_right _ (List.mem_append_right _ (.tail _ (sub5 p (.tail _ hp))))
  have sc : ∀ p ∈ T5, p ∈ TA ++ (TB ++ ((UN, listOf ns.toArray cn) :: T5)) := fun p hp => List.mem_append_right _ (List.mem_append_right _ (.tail _ hp))
  obtain ⟨a30, hA30⟩ := wA.mem
  obtain ⟨a37, hA37⟩ := wB.mem
  exact law3 w UP UN W vW us ns cW cu cn a37 a30 _ _ _ _ _ _ _ _ _ _ rfl _ _ rfl o1 o2 o3 u pp q sg b H t1 t2 t3 _ d1 d2 d3 (sb _ h1) (sb _ h2) (sb _ h3) (sb _ hW) iW (sc _ (sub5 _ (.head _))) (List.mem_append_right _ (List.mem_append_right _ (.head _))) (List.mem_append_right _ (List.mem_append_left _ hA37)) (List.mem_append_left _ hA30) (dU.mono sb) (dN.mono sc) (same "window" (by decide) (by decide) (by decide)) (same "upper" (by decide) (by decide) (by decide)) (same "under" (by decide) (by decide) (by decide)) F5 X N5 Tp hd hu hE hret
end

section
open PySem PySem.Spec PySem.Calls PySem.W PyProof.Rows
set_option maxRecDepth 100000
local macro_rules | `(tactic| walk_at "MINE pad") => `(tactic| fail "pad")

theorem fill9c : ∀ (w : World), hd.heap_39 w.params = hd.heap_39 w.params ∧ PySem.Challenge.rw_tx0024_01.prog = PySem.Challenge.rw_tx0024_01.prog := by
  k_fill
  intro w; exact ⟨rfl, rfl⟩
local macro_rules | `(tactic| walk_at "binaryOp Mult int int") => `(tactic| k_extra "M binaryOp Mult int int")
local macro_rules | `(tactic| walk_at "call ref") => `(tactic| k_extra "M call ref")
local macro_rules | `(tactic| walk_at "exec For Name Call cons nil") => `(tactic| k_extra "M For")

local macro_rules | `(tactic| passes_own) => `(tactic| assumption)
set_option maxHeartbeats 8000000 in
theorem law1b (w : World) (CE : Addr) (nm pr bd sc dec ret tp tsc bind pos)
    (he : Stmt.FunctionDef nm pr bd dec ret tp sc tsc bind pos = stAt 11) (st : Stmt) (sts : List Stmt) (hb : st :: sts = bd.drop 7)
    {p : Program} {loose : List Str} {mean : ExcName → Option Value} {mg mb : Str → Option Value} {dp un : Nat} {gd : Option (List Code)} {fa : Addr} {ccd : Value} {A₀ : Around} {base : Heap} {L : Addr} {m : Str → Option Value} {s : Shared} {Q : Flow → Shared → Prop} {E : Value → Shared → Prop} (o1 o2 o3 o4 : Obj)
    (u : Nat) (pp q sg b : Int) (H : Lw u pp q sg b) (t1 t2 t3 t4 tq : Tok)
    (d1 : o1.data = .cell (some (.int pp t1))) (d2 : o2.data = .cell (some (.int (pp + q) t2))) (d3 : o3.data = .cell (some (.int sg t3))) (d4 : o4.data = .cell (some (.int b t4)))
    (hC1 : CodeHd base 34 30) (hC2 : CodeHd base 41 37) (B : Below A₀ base [] base)
    (hm : m "q" = some (.int q tq)) (F : Fr base L s.heap m) (X : (hd.heap_39 w.params).In base)
    (N : News base L s.heap [(L + 1 + 1 + 1 + 1, o4), (L + 1 + 1 + 1, o3), (L + 1 + 1, o2), (L + 1, o1), (37, tabObj #[]), (30, tabObj #[])])
    (T : Top p loose mean mg mb base) (l0 : @LT.lt Nat _ 37 L ∧ @LT.lt Nat _ 30 L) (hd : dp + 120 < recursionLimit) (hu : un + 8 * 120 < cLine)
    (hE : PassesOwn (model PR w) (ktrTop dp un gd nm sc L fa ccd (lawCl L) []) (envX nm sc L fa ccd (lawCl L)) E)
    (hret : LawEnd base L s Q) :
    wpAny (model PR w) (ktrTop dp un gd nm sc L fa ccd (lawCl L) []) (execs (st :: sts) (envX nm sc L fa ccd (lawCl L))) Q E s := by
  injection he with e1 e2 e3 e4 e5 e6 e7 e8 e9 e10
  clear e4 e5 e6 e8 e9 e10
  subst e1 e2 e3 e7
  injection hb with e1 e2
  subst e1 e2
  rw [canon3 (b := "q") (c := "q") hm fun y _ _ _ => rfl] at F
  have zp := H.szp
  have zb := H.szb
  k_with_none
  k_with "M binaryOp Mult int int" => (first | (with_reducible refine mul_sz zp zb ?_))
  k_with "M call ref" => (refine stopped ?_)
  k_steps
  refine go_on ?_
  rename_i iW hL8 W hw1 tkw oW UP hu1 lUP hu2 kF kN
  have eW : List.map (fun k' => b + k') (rangeKs 0 (12 - 0 : Int).toNat) = win b := by
    unfold rangeKs win; rw [List.map_map]; exact List.map_congr_left fun k _ => by simp
  rw [eW] at iW
  have hB9 := H.pq.both
  have kN2 : News base L _ ([(30, tabObj #[])] ++ ([(37, tabObj #[])] ++ ((UP, listOf #[] 0) :: [(W, LCg.lst ys), (L + 1 + 1 + 1 + 1, o4), (L + 1 + 1 + 1, o3), (L + 1 + 1, o2), (L + 1, o1)]))) := fun p hp => kN p (by
    simp only [List.cons_append, List.nil_append, List.mem_cons, List.not_mem_nil, or_false] at hp ⊢
    rcases hp with h | h | h | h | h | h | h | h <;> simp [h])
  obtain ⟨l01, l02⟩ := l0
  have ap2 : ApartL [(37, tabObj #[])] ((UP, listOf #[] 0) :: [(W, LCg.lst ys), (L + 1 + 1 + 1 + 1, o4), (L + 1 + 1 + 1, o3), (L + 1 + 1, o2), (L + 1, o1)]) := by
    intro q hq p hp
    simp only [List.mem_cons, List.not_mem_nil, or_false] at hq hp
    subst hq
    obtain ⟨g1, g2, g3, g4, g5, g6, g7⟩ := lUP
    obtain ⟨k2, k3, k4, k5, k6, k7⟩ := oW
    rcases hp with rfl | rfl | rfl | rfl | rfl | rfl <;> (show @Ne Nat _ _; dsimp only; omega)
  have ap1 : ApartL [(30, tabObj #[])] ([(37, tabObj #[])] ++ ((UP, listOf #[] 0) :: [(W, LCg.lst ys), (L + 1 + 1 + 1 + 1, o4), (L + 1 + 1 + 1, o3), (L + 1 + 1, o2), (L + 1, o1)])) := by
    intro q hq p hp
    simp only [List.cons_append, List.nil_append, List.mem_cons, List.not_mem_nil, or_false] at hq hp
    subst hq
    obtain ⟨g1, g2, g3, g4, g5, g6, g7⟩ := lUP
    obtain ⟨k2, k3, k4, k5, k6, k7⟩ := oW
    rcases hp with rfl | rfl | rfl | rfl | rfl | rfl | rfl <;> (show @Ne Nat _ _; dsimp only; omega)
  have hUT : ∀ p ∈ [(W, LCg.lst ys), (L + 1 + 1 + 1 + 1, o4), (L + 1 + 1 + 1, o3), (L + 1 + 1, o2), (L + 1, o1)], p.1 ≠ UP := by
    intro p hp
    simp only [List.mem_cons, List.not_mem_nil, or_false] at hp
    obtain ⟨g1, g2, g3, g4, g5, g6, g7⟩ := lUP
    rcases hp with rfl | rfl | rfl | rfl | rfl <;> (show @Ne Nat _ _; dsimp only; omega)
  generalize hT9 : [(W, LCg.lst ys), (L + 1 + 1 + 1 + 1, o4), (L + 1 + 1 + 1, o3), (L + 1 + 1, o2), (L + 1, o1)] = TT at kN2 ap1 ap2 hUT
  have mW9 : (W, listOf ys.toArray ys.length) ∈ TT := hT9 ▸ .head _
  have m4 : (L + 1 + 1 + 1 + 1, o4) ∈ TT := hT9 ▸ .tail _ (.head _)
  have m3 : (L + 1 + 1 + 1, o3) ∈ TT := hT9 ▸ .tail _ (.tail _ (.head _))
  have m2 : (L + 1 + 1, o2) ∈ TT := hT9 ▸ .tail _ (.tail _ (.tail _ (.head _)))
  have m1 : (L + 1, o1) ∈ TT := hT9 ▸ .tail _ (.tail _ (.tail _ (.tail _ (.head _))))
  k_dflt (refine' DivC.use (id_any w _ [(30, tabObj #[])] [(37, tabObj #[])] .cold .cold ap1 ap2 _ _ _ _ hB9 H.fit1) hC1 hC2 B kF X kN2 T rfl ?hd9 ?hu9 ?_)
  case hd9 => ktr_room
  case hu9 => ktr_units
  intro D9 t19 t29 h9 tk9 TA TB w1 w2 e1 e2 a1 a2 F9 N9 l9
  have apU : Ap TA TB UP TT := ⟨fun q hq p hp => a1 q hq p (List.mem_append_left _ hp), fun q hq p hp => a1 q hq p (List.mem_append_right _ (.tail _ hp)), fun q hq p hp => a2 q hq p (.tail _ hp), fun q hq => a1 q hq (UP, listOf #[] 0) (List.mem_append_right _ (.head _)), fun q hq => a2 q hq (UP, listOf #[] 0) (.head _), hUT⟩
  clear e1 e2 a1 a2 l9 kF kN kN2 ap1 ap2 hUT hT9
  dsimp only
  k_with_none
  k_with "M For" => (refine stopped ?_)
  k_steps
  refine go_on ?_
  rename Fr base _ _ _ => kF
  rename News base _ _ _ => kN
  refine loopU w TA TB TT UP W ys ys.length _ _ _ _ _ _ _ _ _ _ rfl _ _ _ _ _ rfl o1 o2 o3 u pp q sg b H t1 t2 t3 _ d1 d2 d3 m1 m2 m3 mW9 iW w1 w2 apU hC1 hC2 B rfl rfl rfl kF X (fun p hp => kN p (.tail _ hp)) T hd hu hE ?_
  intro h5 tk5 m5 T5 us cu F5 same N5 sub5 dU apL lenU
  dsimp only
  exact law2 w TA TB T5 UP W ys us ys.length cu _ _ _ _ _ _ _ _ _ _ rfl _ _ rfl o1 o2 o3 o4 u pp q sg b H t1 t2 t3 t4 tq d1 d2 d3 d4 (sub5 _ m1) (sub5 _ m2) (sub5 _ m3) (sub5 _ m4) (sub5 _ mW9) iW w1 w2 apL dU hC1 hC2 B (same "window" (by decide) (by decide) (by decide)) (same "upper" (by decide) (by decide) (by decide)) (same "q" (by decide) (by decide) (by decide)) F5 X N5 T hd hu hE hret
end

section
open PySem PySem.Spec PySem.Calls PySem.W PyProof.Rows
set_option maxRecDepth 100000

theorem fill9b : ∀ (w : World), hd.heap_39 w.params = hd.heap_39 w.params ∧ PySem.Challenge.rw_tx0024_01.prog = PySem.Challenge.rw_tx0024_01.prog := by
  k_fill
  intro w; exact ⟨rfl, rfl⟩
local macro_rules | `(tactic| walk_at "binaryOp LShift int int") => `(tactic| k_extra "M binaryOp LShift int int")
local macro_rules | `(tactic| walk_at "binaryOp Mult int int") => `(tactic| k_extra "M binaryOp Mult int int")
local macro_rules | `(tactic| walk_at "binaryOp Add int int") => `(tactic| k_extra "M binaryOp Add int int")
local macro_rules | `(tactic| walk_at "binaryOp Mod int int") => `(tactic| k_extra "M Mod")

local macro_rules | `(tactic| walk_at "execs cons") => `(tactic| (k_here; (try dsimp only); (try k_gentoks); (with_reducible refine wpAny_execs_cons ?_); (try dsimp only)))
local macro_rules | `(tactic| walk_at "execs cons Assign cons") => `(tactic| ((with_reducible show wpAny _ _ (execs (Stmt.Assign [Expr.Name ("window" : Str) _] _ _ :: _) _) _ _ _); k_extra "M at window"))
local macro_rules | `(tactic| walk_at "binaryOp Sub int int") => `(tactic| k_extra "M Sub")
set_option maxHeartbeats 8000000 in
theorem law1 (w : World) (vs : List Value) (cs : List Int) (h7 : cs.length = 7) (CE : Addr) (nm pr bd sc dec ret tp tsc bind pos)
    (he : Stmt.FunctionDef nm pr bd dec ret tp sc tsc bind pos = stAt 11) (st : Stmt) (sts : List Stmt) (hb : st :: sts = bd.drop 1)
    {p : Program} {loose : List Str} {mean : ExcName → Option Value} {mg mb : Str → Option Value} {dp un : Nat} {gd : Option (List Code)} {fa : Addr} {ccd : Value} {A₀ : Around} {base : Heap} {L : Addr} {m : Str → Option Value} {s : Shared} {Q : Flow → Shared → Prop} {E : Value → Shared → Prop} (o1 o2 o3 o4 : Obj)
    (d1 : o1.data = .cell none) (d2 : o2.data = .cell none) (d3 : o3.data = .cell none) (d4 : o4.data = .cell none)
    (hI : IntsAre vs cs) (hC1 : CodeHd base 34 30) (hC2 : CodeHd base 41 37) (B : Below A₀ base [] base)
    (hm : m "cells" = some (.ref CE)) (F : Fr base L s.heap m) (X : (hd.heap_39 w.params).In base)
    (N : News base L s.heap [(CE, listOf vs.toArray 0), (L + 1 + 1 + 1 + 1, o4), (L + 1 + 1 + 1, o3), (L + 1 + 1, o2), (L + 1, o1), (37, tabObj #[]), (30, tabObj #[])])
    (T : Top p loose mean mg mb base) (l0 : @LT.lt Nat _ 37 L ∧ @LT.lt Nat _ 30 L) (hCE : @LT.lt Nat _ (L + 1 + 1 + 1 + 1) CE) (hd : dp + 120 < recursionLimit) (hu : un + 8 * 120 < cLine)
    (hE : PassesOwn (model PR w) (ktrTop dp un gd nm sc L fa ccd (lawCl L) []) (envX nm sc L fa ccd (lawCl L)) E)
    (hret : LawEnd base L s Q) :
    wpAny (model PR w) (ktrTop dp un gd nm sc L fa ccd (lawCl L) []) (execs (st :: sts) (envX nm sc L fa ccd (lawCl L))) Q E s := by
  injection he with e1 e2 e3 e4 e5 e6 e7 e8 e9 e10
  clear e4 e5 e6 e8 e9 e10
  subst e1 e2 e3 e7
  injection hb with e1 e2
  subst e1 e2
  obtain ⟨u, p, q, sg, b, X9⟩ := lw_ex (cs.getD (Int.toNat 0) 0) (cs.getD (Int.toNat 1) 0) (cs.getD (Int.toNat 2) 0) (cs.getD (Int.toNat 3) 0) (cs.getD (Int.toNat 4) 0) (cs.getD (Int.toNat 5) 0) (cs.getD (Int.toNat 6) 0)
  rw [canon3 (b := "cells") (c := "cells") hm fun y _ _ _ => rfl] at F
  k_with_none
  k_with "M binaryOp LShift int int" => (with_reducible refine shl_at X9.eu X9.H.hu ?_)
  k_with "M Mod" => (first | (with_reducible refine mod_at X9.es X9.nB ?_) | (with_reducible refine mod_int X9.nU ?_) | (with_reducible refine mod_int X9.n5 ?_))
  k_with "M binaryOp Mult int int" => (first | (with_reducible refine mul_sz X9.z0 X9.zU ?_) | (with_reducible refine mul_sz X9.z1 X9.zU ?_) | (with_reducible refine mul_sz X9.H.szp X9.H.szb ?_) | (refine mul_sz ⟨by decide⟩ X9.zU ?_))
  k_with "M binaryOp Add int int" => (first | (with_reducible refine add_at X9.ep ?_) | (with_reducible refine add_at X9.eq ?_))
  k_with "M Sub" => (first | (with_reducible refine sub_at X9.eb ?_))
  k_with "M at window" => (refine stopped ?_)
  k_steps
  refine go_on ?_
  rename Fr base _ _ _ => kF
  rename News base _ _ _ => kN
  k_dflt (refine' law1b w CE _ _ _ _ _ _ _ _ _ _ rfl _ _ rfl _ _ _ _ u p q sg b X9.H _ _ _ _ _ ?d1 ?d2 ?d3 ?d4 hC1 hC2 B rfl kF X (fun p hp => kN p (.tail _ hp)) T l0 hd hu hE hret)
  case d1 => assumption
  case d2 => assumption
  case d3 => assumption
  case d4 => assumption
end

section
open PySem PySem.Spec PySem.Calls PySem.W PyProof.Rows
set_option maxRecDepth 100000

theorem fill9p : ∀ (w : World), hd.heap_39 w.params = hd.heap_39 w.params ∧ PySem.Challenge.rw_tx0024_01.prog = PySem.Challenge.rw_tx0024_01.prog := by
  k_fill
  intro w; exact ⟨rfl, rfl⟩

local macro_rules | `(tactic| walk_at "execs cons Assign cons") => `(tactic| ((with_reducible show wpAny _ _ (execs (Stmt.Assign [Expr.Name ("unit" : Str) _] _ _ :: _) _) _ _ _); k_extra "M at unit"))
set_option maxHeartbeats 8000000 in
theorem law_walk (w : World) (ws : List Int) (vs : List Value) (S : Addr) (nm pr bd sc dec ret tp tsc bind pos)
    (he : Stmt.FunctionDef nm pr bd dec ret tp sc tsc bind pos = stAt 11)
    {p : Program} {loose : List Str} {mean : ExcName → Option Value} {mg mb : Str → Option Value} {dp un : Nat} {gd : Option (List Code)} {fa : Addr} {ccd : Value} {A₀ : Around} {base : Heap} {L : Addr} {s : Shared} {Q : Flow → Shared → Prop} {E : Value → Shared → Prop} (o1 o2 o3 o4 : Obj)
    (d1 : o1.data = .cell none) (d2 : o2.data = .cell none) (d3 : o3.data = .cell none) (d4 : o4.data = .cell none)
    (hI : IntsAre vs ws) (hlen : ws.length ≤ 63) (hS : base.IsList S vs.toArray) (hC1 : CodeHd base 34 30) (hC2 : CodeHd base 41 37) (B : Below A₀ base [] base)
    (F : Fr base L s.heap (fun y => if y = "script" then some (.ref S) else none)) (X : (hd.heap_39 w.params).In base)
    (N : News base L s.heap [(L + 1 + 1 + 1 + 1, o4), (L + 1 + 1 + 1, o3), (L + 1 + 1, o2), (L + 1, o1), (37, tabObj #[]), (30, tabObj #[])])
    (T : Top p loose mean mg mb base) (l0 : @LT.lt Nat _ 37 L ∧ @LT.lt Nat _ 30 L) (hd : dp + 120 < recursionLimit) (hu : un + 8 * 120 < cLine)
    (hE : PassesOwn (model PR w) (ktrTop dp un gd nm sc L fa ccd (lawCl L) []) (envX nm sc L fa ccd (lawCl L)) E)
    (hret : LawEnd base L s Q) :
    wpAny (model PR w) (ktrTop dp un gd nm sc L fa ccd (lawCl L) []) (execs bd (envX nm sc L fa ccd (lawCl L))) Q E s := by
  injection he with e1 e2 e3 e4 e5 e6 e7 e8 e9 e10
  clear e4 e5 e6 e8 e9 e10
  subst e1 e2 e3 e7
  k_with_none
  k_with "M at unit" => (refine stopped ?_)
  k_steps
  refine go_on ?_
  rename Fr base _ _ _ => kF
  rename News base _ _ _ => kN
  rename IntsAre _ (List.take 7 ws ++ _) => iC
  rename _ ∧ _ => lC
  exact law1 w _ _ (cells_seven ws) _ _ _ _ _ _ _ _ _ _ _ rfl _ _ rfl o1 o2 o3 o4 d1 d2 d3 d4 iC hC1 hC2 B rfl kF X (fun p hp => kN p (by
    simp only [List.mem_cons, List.not_mem_nil, or_false] at hp ⊢
    rcases hp with h | h | h | h | h | h | h <;> simp [h])) T l0 (by omega) hd hu hE hret
end

end

end Mine

section
open PySem PySem.Spec PySem.Calls PySem.W PyProof.Rows
open Mine
set_option maxRecDepth 100000
set_option maxHeartbeats 8000000 in
theorem PySem.Challenge.cw_tx0024_01_holds : PySem.Challenge.rw_tx0024_01.Holds := by
  refine hd ?_
  k_go0
  rename_i w s₀ s₁ mg mb G Y fa o pm cd doc ho hcd hg X V T B TE TW ws hs hlay0 hL hr hl2 x8 x7 S vs x4 hL' ra w1 r0 hI hr' hc1 hc2 hD h₁ tk₁ o4 o3 o2 o1 d4 d3 d2 d1 X0 XX TT KK FF cH NN ll
  have hlen : ws.length ≤ 63 := by omega
  clear G Y ho hcd X V T B TE TW hs hlay0 hL hr hl2 hL' ra w1 r0 hr' hc1 hc2 hD X0
  have e4 : o4.data = .cell none := d4
  have e3 : o3.data = .cell none := d3
  have e2 : o2.data = .cell none := d2
  have e1 : o1.data = .cell none := d1
  clear d4 d3 d2 d1
  have F2 : Fr (ghostOf s₁.heap [(41, 37), (34, 30)]) s₁.heap.objs.size h₁ (fun y => if y = "script" then some (.ref S) else none) := FF
  clear FF
  refine law_walk w ws vs S _ _ _ _ _ _ _ _ _ _ rfl o1 o2 o3 o4 e1 e2 e3 e4 hI hlen lifted codeHd cH KK ?F9 XX ?N9 TT ll ?hd9 ?hu9 ?hE9 ?ret9
  case F9 => exact F2
  case N9 => exact NN
  case hd9 => decide
  case hu9 => decide
  case hE9 => first | passes_own | with_unfolding_all passes_own
  case ret9 =>
    intro h' tk m' news' a1 a2 F N h37 h30
    refine ⟨?_, ?_⟩
    · dsimp only
      k_steps
    · exact ⟨GrownAt.of N h37, GrownAt.of N h30, trivial⟩
end
