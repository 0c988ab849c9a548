/-
  THE PLAIN ARITHMETIC of the complete structure: digits of base 8, one digit made another.
-/
import Derived.Test.Qxb6613077aFmtPlain
import Derived.Laws.BitsAllLaws
namespace Go.Proofs.Qxb6613077aFmt
open Go.RowKit

/-- the weight of digit n -/
def p8 (n : Int) : Int := 8 ^ n.toNat
/-- a with its digit of weight w moved by k, modulo 8 -/
def mv (a w k : Int) : Int := a - a / w % 8 * w + (a / w % 8 + k) % 8 * w
/-- how far a link moves -/
def stp (l : Int) : Int := if l = 0 then 4 else if l = 1 then 1 else 7

theorem p8_val (d : Int) (h0 : 0 ≤ d) (h1 : d ≤ 10) :
    (d = 0 ∧ p8 d = 1) ∨ (d = 1 ∧ p8 d = 8) ∨ (d = 2 ∧ p8 d = 64) ∨ (d = 3 ∧ p8 d = 512) ∨ (d = 4 ∧ p8 d = 4096) ∨ (d = 5 ∧ p8 d = 32768) ∨ (d = 6 ∧ p8 d = 262144) ∨ (d = 7 ∧ p8 d = 2097152) ∨ (d = 8 ∧ p8 d = 16777216) ∨ (d = 9 ∧ p8 d = 134217728) ∨ (d = 10 ∧ p8 d = 1073741824) := by
  have h : d = 0 ∨ d = 1 ∨ d = 2 ∨ d = 3 ∨ d = 4 ∨ d = 5 ∨ d = 6 ∨ d = 7 ∨ d = 8 ∨ d = 9 ∨ d = 10 := by omega
  rcases h with rfl | rfl | rfl | rfl | rfl | rfl | rfl | rfl | rfl | rfl | rfl <;> simp [p8] <;> decide
theorem p8_bd (d : Int) (h0 : 0 ≤ d) (h1 : d ≤ 10) : 1 ≤ p8 d ∧ p8 d ≤ 1073741824 := by
  have := p8_val d h0 h1; omega
theorem p8_bd9 (d : Int) (h0 : 0 ≤ d) (h1 : d ≤ 9) : 1 ≤ p8 d ∧ p8 d ≤ 134217728 := by
  have := p8_val d h0 (by omega); omega
theorem pow_p8 (d : Int) (h0 : 0 ≤ d) (h1 : d ≤ 10) : (2 : Int) ^ (3 * d).toNat = p8 d := by
  have h : d = 0 ∨ d = 1 ∨ d = 2 ∨ d = 3 ∨ d = 4 ∨ d = 5 ∨ d = 6 ∨ d = 7 ∨ d = 8 ∨ d = 9 ∨ d = 10 := by omega
  rcases h with rfl | rfl | rfl | rfl | rfl | rfl | rfl | rfl | rfl | rfl | rfl <;> decide

/-! ### bits on int -/
theorem ofInt_64 (a : Nat) (ha : a < 18446744073709551616) : (BitVec.ofInt 64 (a : Int)).toNat = a := by
  rw [BitVec.ofInt_natCast, BitVec.toNat_ofNat]; exact Nat.mod_eq_of_lt (by omega)
theorem i64_and_nat (a b : Nat) (ha : a < 9223372036854775808) (hb : b < 9223372036854775808) : bits .and .i64 (a : Int) (b : Int) = ((a &&& b : Nat) : Int) := by
  have hx : a &&& b < 2 ^ 63 := Nat.and_lt_two_pow _ (by omega)
  show IntKind.i64.wrap ((BitVec.ofInt 64 (a : Int) &&& BitVec.ofInt 64 (b : Int)).toNat : Int) = _
  rw [BitVec.toNat_and, ofInt_64 a (by omega), ofInt_64 b (by omega), IntKind.wrap_i64]
  omega
theorem i64_or_nat (a b : Nat) (ha : a < 9223372036854775808) (hb : b < 9223372036854775808) : bits .or .i64 (a : Int) (b : Int) = ((a ||| b : Nat) : Int) := by
  have hx : a ||| b < 2 ^ 63 := Nat.or_lt_two_pow (by omega) (by omega)
  show IntKind.i64.wrap ((BitVec.ofInt 64 (a : Int) ||| BitVec.ofInt 64 (b : Int)).toNat : Int) = _
  rw [BitVec.toNat_or, ofInt_64 a (by omega), ofInt_64 b (by omega), IntKind.wrap_i64]
  omega
theorem i64_andNot_nat (a b : Nat) (ha : a < 9223372036854775808) (hb : b < 9223372036854775808) : bits .andNot .i64 (a : Int) (b : Int) = ((a &&& (18446744073709551615 - b) : Nat) : Int) := by
  have hx : (18446744073709551615 - b) &&& a < 2 ^ 63 := Nat.and_lt_two_pow _ (by omega)
  rw [Nat.and_comm] at hx
  show IntKind.i64.wrap ((BitVec.ofInt 64 (a : Int) &&& ~~~BitVec.ofInt 64 (b : Int)).toNat : Int) = _
  rw [BitVec.toNat_and, BitVec.toNat_not, ofInt_64 a (by omega), ofInt_64 b (by omega), IntKind.wrap_i64]
  have e : 2 ^ 64 - 1 - b = 18446744073709551615 - b := by omega
  rw [e]
  omega
/-- what is masked, and what is not, make the whole -/
theorem and_split (a b : Nat) (ha : a < 2 ^ 64) (hb : b < 2 ^ 64) : (a &&& b) + (a &&& (2 ^ 64 - 1 - b)) = a := by
  have key : (BitVec.ofNat 64 a &&& BitVec.ofNat 64 b) + (BitVec.ofNat 64 a &&& ~~~ BitVec.ofNat 64 b) = BitVec.ofNat 64 a := by
    rw [BitVec.add_eq_or_of_and_eq_zero]
    · ext i hi
      simp only [BitVec.getElem_or, BitVec.getElem_and, BitVec.getElem_not]
      cases (BitVec.ofNat 64 a)[i] <;> cases (BitVec.ofNat 64 b)[i] <;> rfl
    · ext i hi
      simp only [BitVec.getElem_and, BitVec.getElem_not, BitVec.getElem_zero]
      cases (BitVec.ofNat 64 a)[i] <;> cases (BitVec.ofNat 64 b)[i] <;> rfl
  have k2 := congrArg BitVec.toNat key
  rw [BitVec.toNat_add, BitVec.toNat_and, BitVec.toNat_and, BitVec.toNat_not, BitVec.toNat_ofNat, BitVec.toNat_ofNat, Nat.mod_eq_of_lt ha, Nat.mod_eq_of_lt hb] at k2
  have h1 : a &&& b ≤ a := Nat.and_le_left
  have h2 : a &&& (2 ^ 64 - 1 - b) ≤ a := Nat.and_le_left
  by_cases hlt : (a &&& b) + (a &&& (2 ^ 64 - 1 - b)) < 2 ^ 64
  · rwa [Nat.mod_eq_of_lt hlt] at k2
  · exfalso
    rw [Nat.mod_eq_sub_mod (by omega), Nat.mod_eq_of_lt (by omega)] at k2
    omega
theorem and_mid (a s : Nat) : a &&& (7 * 2 ^ s) = a / 2 ^ s % 8 * 2 ^ s := by
  have e : 7 * 2 ^ s = 7 <<< s := by rw [Nat.shiftLeft_eq]
  rw [e, ← Nat.shiftRight_eq_div_pow, ← Nat.shiftLeft_eq]
  apply Nat.eq_of_testBit_eq
  intro i
  rw [Nat.testBit_and, Nat.testBit_shiftLeft, Nat.testBit_shiftLeft]
  by_cases h : s ≤ i
  · have e2 : (a >>> s) % 8 = (a >>> s) &&& 7 := (nat_mask3 _).symm
    rw [e2, Nat.testBit_and, Nat.testBit_shiftRight]
    have : s + (i - s) = i := by omega
    simp [h, this]
  · simp [h]
theorem nat_wd (s a m : Nat) (ha : a < 2 ^ 30) (hs : s ≤ 27) (hm : m < 8) :
    (a &&& (18446744073709551615 - 7 * 2 ^ s)) ||| (m * 2 ^ s) = a - a / 2 ^ s % 8 * 2 ^ s + m * 2 ^ s := by
  have hp : 2 ^ s ≤ 2 ^ 27 := Nat.pow_le_pow_right (by omega) hs
  have hp0 : 0 < 2 ^ s := Nat.two_pow_pos s
  have h1 := and_split a (7 * 2 ^ s) (by omega) (by omega)
  rw [and_mid] at h1
  have e1 : a &&& (18446744073709551615 - 7 * 2 ^ s) = a - a / 2 ^ s % 8 * 2 ^ s := by
    have : (2 ^ 64 - 1 - 7 * 2 ^ s) = 18446744073709551615 - 7 * 2 ^ s := by omega
    rw [this] at h1; omega
  rw [e1]
  have hd : a = a / 2 ^ s / 8 * (8 * 2 ^ s) + a / 2 ^ s % 8 * 2 ^ s + a % 2 ^ s := by
    have q1 := Nat.div_add_mod a (2 ^ s)
    have q2 := Nat.div_add_mod (a / 2 ^ s) 8
    have q3 : a / 2 ^ s * 2 ^ s = a / 2 ^ s / 8 * (8 * 2 ^ s) + a / 2 ^ s % 8 * 2 ^ s := by
      rw [← Nat.mul_assoc, ← Nat.add_mul, Nat.mul_comm _ 8, q2]
    rw [← q3, Nat.mul_comm]; exact q1.symm
  generalize a / 2 ^ s / 8 = H at *
  have hl : a % 2 ^ s < 2 ^ s := Nat.mod_lt _ hp0
  generalize a % 2 ^ s = l at *
  have e2 : a - a / 2 ^ s % 8 * 2 ^ s = H * (8 * 2 ^ s) + l := by omega
  rw [e2]
  have hp3 : 2 ^ (s + 3) = 8 * 2 ^ s := by rw [Nat.pow_add]; omega
  have j1 : H * (8 * 2 ^ s) ||| l = H * (8 * 2 ^ s) + l := nat_join (s + 3) _ _ (by rw [hp3]; exact Nat.mul_mod_left _ _) (by rw [hp3]; omega)
  have j2 : m * 2 ^ s ||| l = m * 2 ^ s + l := nat_join s _ _ (Nat.mul_mod_left _ _) hl
  have hm2 : m * 2 ^ s ≤ 7 * 2 ^ s := Nat.mul_le_mul_right _ (by omega)
  have j3 : H * (8 * 2 ^ s) ||| (m * 2 ^ s + l) = H * (8 * 2 ^ s) + (m * 2 ^ s + l) := nat_join (s + 3) _ _ (by rw [hp3]; exact Nat.mul_mod_left _ _) (by rw [hp3]; omega)
  rw [← j1, Nat.or_assoc, Nat.or_comm l, j2, j3]
  omega

/-! ### in the walks' own forms -/
theorem wrap_small (x : Int) (h0 : -9223372036854775808 ≤ x) (h1 : x ≤ 9223372036854775807) : wrap64 x = x := IntWalk.wrap64_in x ⟨h0, h1⟩
theorem digit_eq (a d : Int) (a0 : 0 ≤ a) (a1 : a < 1073741824) (h0 : 0 ≤ d) (h1 : d ≤ 9) : bits .and .i64 (a / 2 ^ (3 * d).toNat) 7 = a / p8 d % 8 := by
  rw [pow_p8 d h0 (by omega)]
  have hp := p8_bd9 d h0 h1
  have q0 : 0 ≤ a / p8 d := Int.ediv_nonneg a0 (by omega)
  have q1 : a / p8 d ≤ a := Int.ediv_le_self _ a0
  obtain ⟨n, hn⟩ := Int.eq_ofNat_of_zero_le q0
  rw [hn] at q1 ⊢
  have := i64_and_nat n 7 (by omega) (by omega)
  rw [nat_mask3] at this
  simpa using this
theorem wd_eq (a d m : Int) (a0 : 0 ≤ a) (a1 : a < 1073741824) (h0 : 0 ≤ d) (h1 : d ≤ 9) (m0 : 0 ≤ m) (m7 : m ≤ 7) :
    bits BinOp.or IntKind.i64 (bits BinOp.andNot IntKind.i64 a (wrap64 (7 * 2 ^ (3 * d).toNat))) (wrap64 (m * 2 ^ (3 * d).toNat)) = a - a / p8 d % 8 * p8 d + m * p8 d := by
  obtain ⟨D, rfl⟩ := Int.eq_ofNat_of_zero_le h0
  obtain ⟨A, rfl⟩ := Int.eq_ofNat_of_zero_le a0
  obtain ⟨M, rfl⟩ := Int.eq_ofNat_of_zero_le m0
  have e3 : (3 * (D : Int)).toNat = 3 * D := by omega
  have ep : p8 D = ((2 ^ (3 * D) : Nat) : Int) := by rw [← pow_p8 D (by omega) (by omega), e3]; simp
  have hp : (2 : Nat) ^ (3 * D) ≤ 2 ^ 27 := Nat.pow_le_pow_right (by omega) (by omega)
  have hp0 : 0 < (2 : Nat) ^ (3 * D) := Nat.two_pow_pos _
  have hm2 : M * 2 ^ (3 * D) ≤ 7 * 2 ^ (3 * D) := Nat.mul_le_mul_right _ (by omega)
  have f1 : (7 : Int) * 2 ^ (3 * (D : Int)).toNat = ((7 * 2 ^ (3 * D) : Nat) : Int) := by rw [e3]; simp
  have f2 : (M : Int) * 2 ^ (3 * (D : Int)).toNat = ((M * 2 ^ (3 * D) : Nat) : Int) := by rw [e3]; simp
  rw [f1, f2, wrap_small _ (by omega) (by omega), wrap_small _ (by omega) (by omega), i64_andNot_nat _ _ (by omega) (by omega)]
  have hle : A &&& (18446744073709551615 - 7 * 2 ^ (3 * D)) ≤ A := Nat.and_le_left
  rw [i64_or_nat _ _ (by omega) (by omega), nat_wd (3 * D) A M (by omega) (by omega) (by omega), ep]
  have hd : A / 2 ^ (3 * D) % 8 * 2 ^ (3 * D) ≤ A := by
    have g1 : A / 2 ^ (3 * D) % 8 ≤ A / 2 ^ (3 * D) := Nat.mod_le _ _
    exact Nat.le_trans (Nat.mul_le_mul_right _ g1) (Nat.div_mul_le_self _ _)
  rw [Int.natCast_add, Int.natCast_sub hd]
  simp
theorem digit_le (a d : Int) (a0 : 0 ≤ a) (h0 : 0 ≤ d) (h1 : d ≤ 9) : a / p8 d % 8 * p8 d ≤ a := by
  have hp := p8_bd9 d h0 h1
  have q0 : 0 ≤ a / p8 d := Int.ediv_nonneg a0 (by omega)
  have q1 : a / p8 d * p8 d ≤ a := Int.ediv_mul_le _ (by omega)
  have q2 : a / p8 d % 8 * p8 d ≤ a / p8 d * p8 d := Int.mul_le_mul_of_nonneg_right (by omega) (by omega)
  omega
theorem mv_raw (a d k : Int) (a0 : 0 ≤ a) (a1 : a < 1073741824) (h0 : 0 ≤ d) (h1 : d ≤ 9) (k0 : 0 ≤ k) (k1 : k ≤ 8) :
    wrap64 (wrap64 (a - wrap64 ((a / p8 d).tmod 8 * p8 d)) + wrap64 ((wrap64 ((a / p8 d).tmod 8 + k)).tmod 8 * p8 d)) = mv a (p8 d) k := by
  have hp := p8_bd9 d h0 h1
  have q0 : 0 ≤ a / p8 d := Int.ediv_nonneg a0 (by omega)
  have hd := digit_le a d a0 h0 h1
  rw [Int.tmod_eq_emod_of_nonneg q0, wrap_small (_ + k) (by omega) (by omega), Int.tmod_eq_emod_of_nonneg (by omega)]
  have g1 : 0 ≤ a / p8 d % 8 * p8 d := Int.mul_nonneg (by omega) (by omega)
  have g2 : 0 ≤ (a / p8 d % 8 + k) % 8 * p8 d := Int.mul_nonneg (by omega) (by omega)
  have g3 : (a / p8 d % 8 + k) % 8 * p8 d ≤ 7 * p8 d := Int.mul_le_mul_of_nonneg_right (by omega) (by omega)
  rw [wrap_small (a / p8 d % 8 * p8 d) (by omega) (by omega), wrap_small (_ % 8 * _) (by omega) (by omega), wrap_small (a - _) (by omega) (by omega), wrap_small _ (by omega) (by omega)]
  rfl
/-- on the full circle a link moves by its step -/
theorem full_circle : ∀ (d : Fin 8) (l : Fin 3), nbF 255 (d.val : Int) l.val = ((d.val : Int) + stp l.val) % 8 := by decide +kernel
theorem nb_full (d l : Int) (d0 : 0 ≤ d) (d7 : d ≤ 7) (l0 : 0 ≤ l) (l2 : l ≤ 2) : nbF 255 d l.toNat = (d + stp l) % 8 := by
  have h := full_circle ⟨d.toNat, by omega⟩ ⟨l.toNat, by omega⟩
  simp only [] at h
  rwa [Int.toNat_of_nonneg d0, Int.toNat_of_nonneg l0] at h

/-! ### THE PLAIN LAWS -/
theorem mv_digit (a w k : Int) (w1 : 1 ≤ w) : mv a w k / w % 8 = (a / w % 8 + k) % 8 := by
  have e : mv a w k = a + ((a / w % 8 + k) % 8 - a / w % 8) * w := by unfold mv; rw [Int.sub_mul]; omega
  rw [e, Int.add_mul_ediv_right _ _ (by omega)]
  omega
theorem mv_mv (a w j k : Int) (w1 : 1 ≤ w) : mv (mv a w j) w k = mv a w (j + k) := by
  have h := mv_digit a w j w1
  have e : ∀ x k, mv x w k = x + ((x / w % 8 + k) % 8 - x / w % 8) * w := fun x k => by unfold mv; rw [Int.sub_mul]; omega
  rw [e (mv a w j) k, h, e a j, e a (j + k), Int.add_assoc, ← Int.add_mul]
  congr 2
  omega
theorem mv_zero (a w k : Int) (h : k % 8 = 0) : mv a w k = a := by
  have e : (a / w % 8 + k) % 8 = a / w % 8 := by omega
  unfold mv; rw [e]; omega
theorem mv_bd (a d D k : Int) (a0 : 0 ≤ a) (d0 : 0 ≤ d) (dD : d < D) (D10 : D ≤ 10) (aD : a < p8 D) : 0 ≤ mv a (p8 d) k ∧ mv a (p8 d) k < p8 D := by
  have hd := digit_le a d a0 d0 (by omega)
  have hp := p8_bd9 d d0 (by omega)
  have g2 : 0 ≤ (a / p8 d % 8 + k) % 8 * p8 d := Int.mul_nonneg (by omega) (by omega)
  refine ⟨by unfold mv; omega, ?_⟩
  have v1 := p8_val d d0 (by omega)
  have v2 := p8_val D (by omega) D10
  unfold mv
  rcases v1 with ⟨_, e1⟩ | ⟨_, e1⟩ | ⟨_, e1⟩ | ⟨_, e1⟩ | ⟨_, e1⟩ | ⟨_, e1⟩ | ⟨_, e1⟩ | ⟨_, e1⟩ | ⟨_, e1⟩ | ⟨_, e1⟩ | ⟨_, e1⟩ <;> rw [e1] <;>
    (rcases v2 with ⟨_, e2⟩ | ⟨_, e2⟩ | ⟨_, e2⟩ | ⟨_, e2⟩ | ⟨_, e2⟩ | ⟨_, e2⟩ | ⟨_, e2⟩ | ⟨_, e2⟩ | ⟨_, e2⟩ | ⟨_, e2⟩ | ⟨_, e2⟩ <;> rw [e2] at aD ⊢ <;> omega)
theorem p8_split (d e : Int) (d0 : 0 ≤ d) (h : d < e) : ∃ c : Int, 1 ≤ c ∧ p8 e = p8 d * (8 * c) := by
  refine ⟨8 ^ (e.toNat - d.toNat - 1), Int.pow_pos (by decide), ?_⟩
  have he : e.toNat = d.toNat + (1 + (e.toNat - d.toNat - 1)) := by omega
  unfold p8
  rw [he, Int.pow_add, Int.pow_add]
  have : d.toNat + (1 + (e.toNat - d.toNat - 1)) - d.toNat - 1 = e.toNat - d.toNat - 1 := by omega
  rw [this]
  simp
/-- moving one digit leaves every other as it was -/
theorem dig_other (a d e t : Int) (d0 : 0 ≤ d) (e0 : 0 ≤ e) (hde : d ≠ e) (t0 : 0 ≤ a / p8 d % 8 + t) (t7 : a / p8 d % 8 + t ≤ 7) : (a + t * p8 d) / p8 e % 8 = a / p8 e % 8 := by
  have pp : ∀ n : Int, 1 ≤ p8 n := fun n => Int.pow_pos (by decide)
  have hd := pp d
  have he := pp e
  by_cases h : d < e
  · obtain ⟨c, c1, ec⟩ := p8_split d e d0 h
    rw [ec, ← Int.ediv_ediv_of_nonneg (by omega), ← Int.ediv_ediv_of_nonneg (by omega), Int.add_mul_ediv_right _ _ (by omega), ← Int.ediv_ediv_of_nonneg (by omega), ← Int.ediv_ediv_of_nonneg (by omega)]
    have : (a / p8 d + t) / 8 = a / p8 d / 8 := by omega
    rw [this]
  · obtain ⟨c, c1, ec⟩ := p8_split e d e0 (by omega)
    have : t * p8 d = (8 * (t * c)) * p8 e := by rw [ec]; simp only [Int.mul_assoc, Int.mul_comm]
    rw [this, Int.add_mul_ediv_right _ _ (by omega)]
    omega
theorem mv_comm (a d e j k : Int) (d0 : 0 ≤ d) (d9 : d ≤ 9) (e0 : 0 ≤ e) (e9 : e ≤ 9) : mv (mv a (p8 d) j) (p8 e) k = mv (mv a (p8 e) k) (p8 d) j := by
  by_cases hde : d = e
  · subst hde
    have hp := p8_bd9 d d0 d9
    rw [mv_mv _ _ _ _ (by omega), mv_mv _ _ _ _ (by omega), Int.add_comm]
  · have el : ∀ w x k, mv x w k = x + ((x / w % 8 + k) % 8 - x / w % 8) * w := fun w x k => by unfold mv; rw [Int.sub_mul]; omega
    rw [el (p8 e) (mv a (p8 d) j) k, el (p8 d) (mv a (p8 e) k) j, el (p8 d) a j, el (p8 e) a k]
    rw [dig_other a d e _ d0 e0 hde (by omega) (by omega), dig_other a e d _ e0 d0 (fun h => hde h.symm) (by omega) (by omega)]
    omega
end Go.Proofs.Qxb6613077aFmt
