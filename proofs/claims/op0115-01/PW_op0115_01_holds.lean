import PyProof.Rows.All
import Wide.All
import OpenK.AllK
import Wide.FinOn
import PySem.Challenge.RW_op0115_01
open PySem PySem.W PySem.Spec PySem.Calls PyProof.Rows
open Builtin.Int (intBits)
set_option Elab.async false
set_option maxRecDepth 100000
set_option maxHeartbeats 8000000
set_option linter.unusedVariables false
set_option linter.unusedSimpArgs false
namespace Mine
section
local macro_rules | `(tactic| refine $_) => `(tactic| assumption)
theorem hd (h : OpenRow.Holds (PySem.Challenge.rw_op0115_01.row)) : OpenRow.Holds (PySem.Challenge.rw_op0115_01.row) := by
  k_head
end
theorem top_off : True := by
  w_top off
  trivial

theorem pow2_pos (n : Nat) : (0 : Int) < 2 ^ n := Int.pow_pos (by decide)

theorem and_shift {x y : Int} {n : Nat} (hx : 0 ≤ x) (hy : 0 ≤ y) (hy2 : y < 2 ^ n) : Builtin.bitAnd (x * 2 ^ n) y = 0 := by
  obtain ⟨a, rfl⟩ := Int.eq_ofNat_of_zero_le hx
  obtain ⟨b, rfl⟩ := Int.eq_ofNat_of_zero_le hy
  have e : ((a : Int) * 2 ^ n) = ((a * 2 ^ n : Nat) : Int) := by push_cast; rfl
  have hb : b < 2 ^ n := by
    have : ((b : Nat) : Int) < ((2 ^ n : Nat) : Int) := by push_cast; exact hy2
    exact_mod_cast this
  rw [e, bitAnd_pp (by omega) (by omega), Int.toNat_natCast, Int.toNat_natCast]
  have : a * 2 ^ n &&& b = 0 := by
    apply Nat.eq_of_testBit_eq
    intro i
    rw [Nat.testBit_and, Nat.testBit_mul_two_pow, Nat.zero_testBit]
    by_cases h : n ≤ i
    · rw [Nat.testBit_lt_two_pow (Nat.lt_of_lt_of_le hb (Nat.pow_le_pow_right (by decide) h))]; simp
    · simp [h]
  rw [this]; rfl
theorem or_shift {x y : Int} {n : Nat} (hx : 0 ≤ x) (hy : 0 ≤ y) (hy2 : y < 2 ^ n) : Builtin.bitOr (x * 2 ^ n) y = x * 2 ^ n + y := by
  rw [bitOr_and, and_shift hx hy hy2]; omega
theorem and_upper {x : Int} {n : Nat} (hx : 0 ≤ x) : Builtin.bitAnd x (x / 2 ^ n * 2 ^ n) = x / 2 ^ n * 2 ^ n := by
  obtain ⟨a, rfl⟩ := Int.eq_ofNat_of_zero_le hx
  have e : ((a : Int) / 2 ^ n * 2 ^ n) = ((a / 2 ^ n * 2 ^ n : Nat) : Int) := by push_cast; rfl
  rw [e, bitAnd_pp (by omega) (by omega), Int.toNat_natCast, Int.toNat_natCast]
  have : a &&& (a / 2 ^ n * 2 ^ n) = a / 2 ^ n * 2 ^ n := by
    apply Nat.eq_of_testBit_eq
    intro i
    rw [Nat.testBit_and, Nat.testBit_mul_two_pow]
    by_cases h : n ≤ i
    · rw [Nat.testBit_div_two_pow, Nat.sub_add_cancel h]; simp [h]
    · simp [h]
  rw [this]
theorem xor_upper {x : Int} {n : Nat} (hx : 0 ≤ x) : Builtin.bitXor x (x / 2 ^ n * 2 ^ n) = x % 2 ^ n := by
  rw [bitXor_and, and_upper hx]
  have := Int.mul_ediv_add_emod x (2 ^ n)
  have e : x / 2 ^ n * 2 ^ n = 2 ^ n * (x / 2 ^ n) := Int.mul_comm _ _
  omega

theorem fdiv_pos {a b : Int} (hb : 0 < b) : a.fdiv b = a / b := Int.fdiv_eq_ediv_of_nonneg _ (Int.le_of_lt hb)
theorem fmod_pos {a b : Int} (hb : 0 < b) : a.fmod b = a % b := Int.fmod_eq_emod_of_nonneg _ (Int.le_of_lt hb)
theorem div_mod_of {a b q r : Int} (e : q * b + r = a) (h0 : 0 ≤ r) (h1 : r < b) : a.fdiv b = q ∧ a.fmod b = r := by
  have hb : 0 < b := by omega
  rw [fdiv_pos hb, fmod_pos hb]
  exact (Int.ediv_emod_unique hb).mpr ⟨by rw [← e, Int.mul_comm]; omega, h0, h1⟩

/-- the first branch of the three by two -/
theorem d3_first {a12 a3 b b1 b2 : Int} {n : Nat} (h1 : 0 ≤ a12) (h2 : a12 < b) (h3 : 0 ≤ a3) (h4 : a3 < 2 ^ n) (h5 : b = b1 * 2 ^ n + b2) (e : a12.fdiv (2 ^ n) = b1) (hb : 0 < b1) :
    let r := Builtin.bitOr ((a12 - b1 * 2 ^ n + b1) * 2 ^ n) a3 - (1 * 2 ^ n - 1) * b2
    (1 * 2 ^ n - 1) * b + r = a12 * 2 ^ n + a3 ∧ r < b := by
  intro r
  have hp := pow2_pos n
  rw [fdiv_pos hp] at e
  have hm := Int.mul_ediv_add_emod a12 (2 ^ n)
  have hm0 := Int.emod_nonneg a12 (Int.ne_of_gt hp)
  rw [e] at hm
  have hr : 0 ≤ a12 - b1 * 2 ^ n + b1 := by
    have : b1 * 2 ^ n = 2 ^ n * b1 := Int.mul_comm _ _
    omega
  have hor : r = (a12 - b1 * 2 ^ n + b1) * 2 ^ n + a3 - (1 * 2 ^ n - 1) * b2 := by
    show Builtin.bitOr _ _ - _ = _
    rw [or_shift hr h3 h4]
  rw [hor, h5]
  generalize (2 : Int) ^ n = P at *
  constructor
  · grind
  · have h6 : a12 * P + a3 < b * P := by
      have : (a12 + 1) * P ≤ b * P := Int.mul_le_mul_of_nonneg_right (by omega) (by omega)
      have : (a12 + 1) * P = a12 * P + P := by grind
      omega
    have : (a12 - b1 * P + b1) * P + a3 - (1 * P - 1) * b2 = a12 * P + a3 - (P - 1) * b := by grind
    have : (P - 1) * b = b * P - b := by grind
    grind
/-- the second -/
theorem d3_second {a12 a3 b b1 b2 : Int} {n : Nat} (h1 : 0 ≤ a12) (h3 : 0 ≤ a3) (h4 : a3 < 2 ^ n) (h5 : b = b1 * 2 ^ n + b2) (h6 : 0 ≤ b2) (hb : 0 < b1) :
    let r := Builtin.bitOr (a12.fmod b1 * 2 ^ n) a3 - a12.fdiv b1 * b2
    a12.fdiv b1 * b + r = a12 * 2 ^ n + a3 ∧ r < b := by
  intro r
  have hp := pow2_pos n
  have hm := Int.mul_ediv_add_emod a12 b1
  have hm0 := Int.emod_nonneg a12 (Int.ne_of_gt hb)
  have hm1 := Int.emod_lt_of_pos a12 hb
  have hq0 : 0 ≤ a12 / b1 := Int.ediv_nonneg h1 (by omega)
  have hor : r = a12 % b1 * 2 ^ n + a3 - a12 / b1 * b2 := by
    show Builtin.bitOr _ _ - _ = _
    rw [fmod_pos hb, fdiv_pos hb, or_shift hm0 h3 h4]
  rw [hor, h5, fdiv_pos hb]
  generalize (2 : Int) ^ n = P at *
  generalize a12 / b1 = q at *
  generalize a12 % b1 = s at *
  constructor
  · grind
  · have : (s + 1) * P ≤ b1 * P := Int.mul_le_mul_of_nonneg_right (by omega) (by omega)
    have : (s + 1) * P = s * P + P := by grind
    have : 0 ≤ q * b2 := Int.mul_nonneg hq0 h6
    omega
theorem d2_facts {a b : Int} {k : Nat} (hk : 1 ≤ k) (hb : 2 ^ (2 * k - 1) ≤ b) (ha : 0 ≤ a) (ha2 : a < 2 ^ (2 * k) * b) :
    0 < b / 2 ^ k ∧ 0 ≤ a / 2 ^ (2 * k) ∧ a / 2 ^ (2 * k) < b ∧ 0 ≤ a / 2 ^ k % 2 ^ k ∧ a / 2 ^ k % 2 ^ k < 2 ^ k ∧ b = b / 2 ^ k * 2 ^ k + b % 2 ^ k ∧ 0 ≤ b % 2 ^ k ∧ b % 2 ^ k < 2 ^ k ∧
      a / 2 ^ (2 * k) * 2 ^ k + a / 2 ^ k % 2 ^ k = a / 2 ^ k := by
  have hp := pow2_pos k
  have hpp := pow2_pos (2 * k)
  have e2 : (2 : Int) ^ (2 * k) = 2 ^ k * 2 ^ k := by rw [← Int.pow_add]; congr 1; omega
  have hbP : (2 : Int) ^ k ≤ b := by
    refine Int.le_trans ?_ hb
    have : (2 : Int) ^ (2 * k - 1) = 2 ^ k * 2 ^ (k - 1) := by rw [← Int.pow_add]; congr 1; omega
    rw [this]
    have h1 : (1 : Int) ≤ 2 ^ (k - 1) := by have := pow2_pos (k - 1); omega
    have := Int.mul_le_mul_of_nonneg_left h1 (Int.le_of_lt hp)
    omega
  have hd : a / 2 ^ (2 * k) = a / 2 ^ k / 2 ^ k := by rw [e2, Int.ediv_ediv_of_nonneg (Int.le_of_lt hp)]
  refine ⟨?_, Int.ediv_nonneg ha (Int.le_of_lt hpp), ?_, Int.emod_nonneg _ (Int.ne_of_gt hp), Int.emod_lt_of_pos _ hp, ?_, Int.emod_nonneg _ (Int.ne_of_gt hp), Int.emod_lt_of_pos _ hp, ?_⟩
  · exact (Int.le_ediv_iff_mul_le hp).mpr (by omega)
  · exact Int.ediv_lt_of_lt_mul hpp (by rw [Int.mul_comm]; exact ha2)
  · have := Int.mul_ediv_add_emod b (2 ^ k); rw [Int.mul_comm] at this; omega
  · rw [hd]
    have := Int.mul_ediv_add_emod (a / 2 ^ k) (2 ^ k); rw [Int.mul_comm] at this; omega
theorem d2_join {a b : Int} {k : Nat} (hb : 0 < b) (ha : 0 ≤ a) :
    let A := a / 2 ^ k
    Builtin.bitOr (A.fdiv b * 2 ^ k) ((A.fmod b * 2 ^ k + a % 2 ^ k).fdiv b) = a.fdiv b ∧ (A.fmod b * 2 ^ k + a % 2 ^ k).fmod b = a.fmod b := by
  intro A
  have hp := pow2_pos k
  rw [fdiv_pos hb, fmod_pos hb, fdiv_pos hb, fmod_pos hb]
  have hA : 0 ≤ A := Int.ediv_nonneg ha (Int.le_of_lt hp)
  have e0 := Int.mul_ediv_add_emod a (2 ^ k)
  have e1 := Int.mul_ediv_add_emod A b
  have h1 := Int.emod_nonneg A (Int.ne_of_gt hb)
  have h2 := Int.emod_lt_of_pos A hb
  have h3 := Int.emod_nonneg a (Int.ne_of_gt hp)
  have h4 := Int.emod_lt_of_pos a hp
  have hq : 0 ≤ A / b := Int.ediv_nonneg hA (Int.le_of_lt hb)
  change 2 ^ k * A + a % 2 ^ k = a at e0
  generalize a % 2 ^ k = a4 at *
  generalize A % b = r1 at *
  generalize A / b = q1 at *
  have e5 := Int.mul_ediv_add_emod (r1 * 2 ^ k + a4) b
  have h5 := Int.emod_nonneg (r1 * 2 ^ k + a4) (Int.ne_of_gt hb)
  have h6 := Int.emod_lt_of_pos (r1 * 2 ^ k + a4) hb
  have hr : 0 ≤ r1 * 2 ^ k := Int.mul_nonneg h1 (Int.le_of_lt hp)
  have hq2 : 0 ≤ (r1 * 2 ^ k + a4) / b := Int.ediv_nonneg (by omega) (Int.le_of_lt hb)
  have hq3 : (r1 * 2 ^ k + a4) / b < 2 ^ k := by
    refine Int.ediv_lt_of_lt_mul hb ?_
    have : (r1 + 1) * 2 ^ k ≤ b * 2 ^ k := Int.mul_le_mul_of_nonneg_right (by omega) (Int.le_of_lt hp)
    have e : (r1 + 1) * 2 ^ k = r1 * 2 ^ k + 2 ^ k := by grind
    have e' : b * 2 ^ k = 2 ^ k * b := Int.mul_comm _ _
    omega
  rw [or_shift hq hq2 hq3]
  generalize (r1 * 2 ^ k + a4) / b = q2 at *
  generalize (r1 * 2 ^ k + a4) % b = r2 at *
  generalize (2 : Int) ^ k = P at *
  have key := div_mod_of (a := a) (b := b) (q := q1 * P + q2) (r := r2) (by grind) h5 h6
  exact ⟨key.1.symm, by rw [key.2]⟩
theorem d2_pad {a b : Int} (hb : 0 < b) : (a * 2).fdiv (b * 2) = a.fdiv b ∧ ((a * 2).fmod (b * 2)).fdiv 2 = a.fmod b := by
  have e := Int.mul_ediv_add_emod a b
  have h1 := Int.emod_nonneg a (Int.ne_of_gt hb)
  have h2 := Int.emod_lt_of_pos a hb
  rw [fdiv_pos hb, fmod_pos hb]
  generalize a / b = q at *
  generalize a % b = r at *
  have key := div_mod_of (a := a * 2) (b := b * 2) (q := q) (r := r * 2) (by grind) (by omega) (by omega)
  rw [key.1, key.2]
  exact ⟨rfl, by rw [fdiv_pos (by decide)]; omega⟩
/-- digits to a number, the lowest first -/
noncomputable def dval (n : Nat) : List Int → Int
  | [] => 0
  | d :: r => d + 2 ^ n * dval n r
theorem dval_append (n : Nat) : ∀ (l l' : List Int), dval n (l ++ l') = dval n l + 2 ^ (n * l.length) * dval n l'
  | [], l' => by simp [dval]
  | d :: r, l' => by
    rw [List.cons_append, dval, dval, dval_append n r l', List.length_cons, Nat.mul_succ, Int.pow_add]
    grind
theorem bits_pow2 (n : Nat) : intBits ((2 : Int) ^ n) ≤ n + 1 := by
  refine intBits_le_iff.mpr ?_
  rw [Int.natAbs_pow]
  exact Nat.pow_lt_pow_right (by decide) (by omega)
theorem dval_bits {n W : Nat} : ∀ (l : List Int), (∀ d ∈ l, intBits d ≤ W) → intBits (dval n l) ≤ W + (n + 2) * l.length
  | [], _ => Nat.le_trans (show intBits (0 : Int) ≤ 0 by decide) (Nat.zero_le _)
  | d :: r, h => by
    have ih := dval_bits (n := n) r fun x hx => h x (.tail _ hx)
    have h1 := intBits_add_le (h d (.head _)) (intBits_mul_le (bits_pow2 n) ih)
    refine Nat.le_trans h1 ?_
    rw [List.length_cons, Nat.mul_succ]
    omega
theorem slice_split {ds : List Int} {x m r : Nat} (h1 : x ≤ m) (h2 : m ≤ r) (h3 : r ≤ ds.length) : (ds.take r).drop x = (ds.take m).drop x ++ (ds.take r).drop m := by
  have e : ds.take r = ds.take m ++ (ds.take r).drop m := by
    have := List.take_append_drop m (ds.take r)
    rw [List.take_take, Nat.min_eq_left h2] at this
    exact this.symm
  conv => lhs; rw [e]
  rw [List.drop_append_of_le_length (by rw [List.length_take]; omega)]
theorem dval_split {n : Nat} {ds : List Int} {x m r : Nat} (h1 : x ≤ m) (h2 : m ≤ r) (h3 : r ≤ ds.length) :
    dval n ((ds.take r).drop m) * 2 ^ ((m - x) * n) + dval n ((ds.take m).drop x) = dval n ((ds.take r).drop x) := by
  rw [slice_split h1 h2 h3, dval_append, List.length_drop, List.length_take, Nat.min_eq_left (by omega), Nat.mul_comm n]
  grind
theorem slice_one {ds : List Int} {x : Nat} (h : x < ds.length) : (ds.take (x + 1)).drop x = [ds[x]] := by
  rw [List.take_succ_eq_append_getElem h, List.drop_append_of_le_length (by rw [List.length_take]; omega), List.drop_of_length_le (by rw [List.length_take]; omega)]
  rfl
/-- a number's digits, k of them, the lowest first -/
noncomputable def digs (n : Nat) (x : Int) : Nat → List Int
  | 0 => []
  | k + 1 => x % 2 ^ n :: digs n (x / 2 ^ n) k
theorem digs_length (n : Nat) : ∀ (k : Nat) (x : Int), (digs n x k).length = k
  | 0, _ => rfl
  | k + 1, x => by rw [digs, List.length_cons, digs_length n k]
theorem digs_bound (n : Nat) : ∀ (k : Nat) (x : Int), ∀ d ∈ digs n x k, 0 ≤ d ∧ d < 2 ^ n
  | 0, _, _, h => nomatch h
  | k + 1, x, d, h => by
    rcases List.mem_cons.mp h with rfl | h
    · exact ⟨Int.emod_nonneg _ (Int.ne_of_gt (pow2_pos n)), Int.emod_lt_of_pos _ (pow2_pos n)⟩
    · exact digs_bound n k _ d h
theorem emod_pow_emod (x : Int) (n m : Nat) (h : n ≤ m) : x % 2 ^ m % 2 ^ n = x % 2 ^ n := by
  refine Int.emod_emod_of_dvd x ?_
  exact ⟨2 ^ (m - n), by rw [← Int.pow_add, Nat.add_sub_cancel' h]⟩
theorem emod_pow_ediv (x : Int) (n m : Nat) : x % 2 ^ (n + m) / 2 ^ n = x / 2 ^ n % 2 ^ m := by
  have hn := pow2_pos n
  have hm := pow2_pos m
  have e1 := Int.mul_ediv_add_emod x (2 ^ n)
  have e2 := Int.mul_ediv_add_emod (x / 2 ^ n) (2 ^ m)
  have h1 := Int.emod_nonneg x (Int.ne_of_gt hn)
  have h2 := Int.emod_lt_of_pos x hn
  have h3 := Int.emod_nonneg (x / 2 ^ n) (Int.ne_of_gt hm)
  have h4 := Int.emod_lt_of_pos (x / 2 ^ n) hm
  generalize x / 2 ^ n / 2 ^ m = q at *
  generalize x / 2 ^ n % 2 ^ m = r at *
  generalize x / 2 ^ n = y at *
  generalize x % 2 ^ n = z at *
  have hlt : 2 ^ n * r + z < 2 ^ (n + m) := by
    rw [Int.pow_add]
    have : 2 ^ n * (r + 1) ≤ 2 ^ n * 2 ^ m := Int.mul_le_mul_of_nonneg_left (by omega) (Int.le_of_lt hn)
    have : (2 : Int) ^ n * (r + 1) = 2 ^ n * r + 2 ^ n := by grind
    omega
  have hge : 0 ≤ 2 ^ n * r + z := by
    have := Int.mul_nonneg (Int.le_of_lt hn) h3
    omega
  have key := (div_mod_of (a := x) (b := 2 ^ (n + m)) (q := q) (r := 2 ^ n * r + z) (by rw [Int.pow_add]; generalize (2 : Int) ^ n = P at *; generalize (2 : Int) ^ m = R at *; grind) hge hlt).2
  rw [fmod_pos (pow2_pos _)] at key
  rw [key, Int.add_comm, Int.add_mul_ediv_left _ _ (Int.ne_of_gt hn), Int.ediv_eq_zero_of_lt h1 h2]
  omega
theorem digs_split (n : Nat) : ∀ (a b : Nat) (x : Int), digs n x (a + b) = digs n (x % 2 ^ (a * n)) a ++ digs n (x / 2 ^ (a * n)) b
  | 0, b, x => by simp [digs]
  | a + 1, b, x => by
    have e : a + 1 + b = (a + b) + 1 := by omega
    have h1 : (a + 1) * n = n + a * n := by rw [Nat.succ_mul]; omega
    rw [e, digs, digs, List.cons_append, h1, emod_pow_emod _ _ _ (by omega), emod_pow_ediv, digs_split n a b (x / 2 ^ n), Int.ediv_ediv_of_nonneg (Int.le_of_lt (pow2_pos n)), ← Int.pow_add]
theorem dval_digs (n : Nat) : ∀ (k : Nat) (x : Int), 0 ≤ x → x < 2 ^ (k * n) → dval n (digs n x k) = x
  | 0, x, h0, h1 => by
    have : x = 0 := by simp at h1; omega
    simp [digs, dval, this]
  | k + 1, x, h0, h1 => by
    have hn := pow2_pos n
    have e := Int.mul_ediv_add_emod x (2 ^ n)
    rw [digs, dval, dval_digs n k (x / 2 ^ n) (Int.ediv_nonneg h0 (Int.le_of_lt hn)) ?_]
    · omega
    · refine Int.ediv_lt_of_lt_mul hn ?_
      rw [← Int.pow_add]
      have : k * n + n = (k + 1) * n := by rw [Nat.succ_mul]
      rw [this]; exact h1
theorem digs_one {n : Nat} {x : Int} (h0 : 0 ≤ x) (h1 : x < 2 ^ n) : digs n x 1 = [x] := by
  rw [digs, digs, Int.emod_eq_of_lt h0 h1]
/-- what the inner def writes -/
theorem put_one {ns : List Int} {n L : Nat} {x : Int} (h : L < ns.length) (h0 : 0 ≤ x) (h1 : x < 2 ^ n) : ns.set L x = ns.take L ++ digs n x 1 ++ ns.drop (L + 1) := by
  rw [digs_one h0 h1, List.set_eq_take_append_cons_drop, if_pos h]
  simp
theorem put_two {ns : List Int} {n L a b : Nat} {x : Int} (h : L + a + b ≤ ns.length) :
    let ns1 := ns.take L ++ digs n (x % 2 ^ (a * n)) a ++ ns.drop (L + a)
    ns1.take (L + a) ++ digs n (x / 2 ^ (a * n)) b ++ ns1.drop (L + a + b) = ns.take L ++ digs n x (a + b) ++ ns.drop (L + a + b) := by
  intro ns1
  have hl : (ns.take L ++ digs n (x % 2 ^ (a * n)) a).length = L + a := by rw [List.length_append, digs_length, List.length_take, Nat.min_eq_left (by omega)]
  have e1 : ns1.take (L + a) = ns.take L ++ digs n (x % 2 ^ (a * n)) a := by
    show (ns.take L ++ digs n (x % 2 ^ (a * n)) a ++ ns.drop (L + a)).take (L + a) = _
    rw [List.take_append_of_le_length (by omega), List.take_of_length_le (by omega)]
  have e2 : ns1.drop (L + a + b) = ns.drop (L + a + b) := by
    show (ns.take L ++ digs n (x % 2 ^ (a * n)) a ++ ns.drop (L + a)).drop (L + a + b) = _
    rw [List.drop_append, List.drop_of_length_le (by omega), List.nil_append, List.drop_drop, hl]
    congr 1; omega
  rw [e1, e2, digs_split]
  simp
theorem drop_step {ads : List Int} {i : Nat} (h : i < ads.length) : ads.drop i = ads[i] :: ads.drop (i + 1) := (List.drop_eq_getElem_cons h)
theorem horner_step {n : Nat} {b r Q V d : Int} (hb : 0 < b) (e : Q * b + r = V) : ((r * 2 ^ n + d) / b + 2 ^ n * Q) * b + (r * 2 ^ n + d) % b = d + 2 ^ n * V := by
  have h := Int.mul_ediv_add_emod (r * 2 ^ n + d) b
  generalize (r * 2 ^ n + d) / b = q at *
  generalize (r * 2 ^ n + d) % b = s at *
  generalize (2 : Int) ^ n = P at *
  rw [← e]
  grind
theorem horner_lt {n : Nat} {b r d : Int} (hb : 0 < b) (h0 : 0 ≤ r) (h1 : r < b) (h2 : 0 ≤ d) (h3 : d < 2 ^ n) : 0 ≤ r * 2 ^ n + d ∧ r * 2 ^ n + d < 2 ^ n * b := by
  have hp := pow2_pos n
  have a1 := Int.mul_nonneg h0 (Int.le_of_lt hp)
  have a2 : (r + 1) * 2 ^ n ≤ b * 2 ^ n := Int.mul_le_mul_of_nonneg_right (by omega) (Int.le_of_lt hp)
  have a3 : (r + 1) * 2 ^ n = r * 2 ^ n + 2 ^ n := by grind
  have a4 : b * 2 ^ n = 2 ^ n * b := Int.mul_comm _ _
  omega
theorem d3_mid1 {a12 b b1 : Int} {n : Nat} (h1 : 0 ≤ a12) (e : a12.fdiv (2 ^ n) = b1) (hb : 0 < b1) : 0 ≤ a12 - b1 * 2 ^ n + b1 ∧ (1 * 2 ^ n - 1) * b1 + (a12 - b1 * 2 ^ n + b1) = a12 := by
  have hp := pow2_pos n
  rw [fdiv_pos hp] at e
  have hm := Int.mul_ediv_add_emod a12 (2 ^ n)
  have hm0 := Int.emod_nonneg a12 (Int.ne_of_gt hp)
  rw [e] at hm
  generalize (2 : Int) ^ n = P at *
  constructor
  · have : b1 * P = P * b1 := Int.mul_comm _ _
    omega
  · grind
theorem d3_mid2 {a12 b1 : Int} (h1 : 0 ≤ a12) (hb : 0 < b1) : 0 ≤ a12.fmod b1 ∧ a12.fdiv b1 * b1 + a12.fmod b1 = a12 := by
  rw [fdiv_pos hb, fmod_pos hb]
  have := Int.mul_ediv_add_emod a12 b1
  have e : a12 / b1 * b1 = b1 * (a12 / b1) := Int.mul_comm _ _
  exact ⟨Int.emod_nonneg _ (Int.ne_of_gt hb), by omega⟩
/-- behind the join: the loop's start -/
theorem d3_start {a12 a3 b b1 b2 q r : Int} {n : Nat} (h3 : 0 ≤ a3) (h4 : a3 < 2 ^ n) (h5 : b = b1 * 2 ^ n + b2) (hr : 0 ≤ r) (e : q * b1 + r = a12) :
    q * b + (Builtin.bitOr (r * 2 ^ n) a3 - q * b2) = a12 * 2 ^ n + a3 := by
  rw [or_shift hr h3 h4, h5, ← e]
  generalize (2 : Int) ^ n = P at *
  grind

noncomputable def ad : List Addr := [2, 3, 15, 17, 18, 20, 21, 22, 24, 25, 27, 28, 29, 31, 32, 34, 35, 36, 38, 39, 41, 42, 43, 45, 46, 48, 49, 50,
  52, 53, 55, 56, 57, 59, 60, 62, 63, 64, 66, 67, 69, 70, 71, 73, 74, 76, 77, 78, 80, 81, 83, 84, 85, 86, 87,
  88, 89, 90, 91, 92, 93, 94, 95, 96, 97, 98, 99, 100, 101, 102, 103, 104, 105, 106, 107, 108, 109, 110, 111,
  112, 113, 114, 115, 116, 117, 118, 120, 121, 123, 124, 125, 127, 128, 130, 131, 132, 134, 135, 137, 138, 139,
  142, 143, 144, 146, 147, 149, 150, 151, 154, 155]
theorem as_ok : ∀ P, ad = (hd.heap_1 P).map (·.1) := fun _ => by kernel_rfl
noncomputable abbrev R0 : OpenRow := PySem.Challenge.rw_op0115_01.row
noncomputable abbrev hk0 : Hook := kmHook hd.heap_1 ad as_ok [37, 30]
noncomputable abbrev xt0 (s : Shared) : Bool := xlAt hd.view_1 [] s && recOk (RowW.records R0.toRowW) s

/-- the top of the text, run at once behind the opening that the library has run -/
theorem top0 (w : World) (os : OsState) : (topFrom treeTable R0.prog w 1926 ⟨boot_heap w.params, Array.mk [], boot_drawn, boot_toks, os⟩).map (fun s => (openSeen hd.view_1 [Str.ofString "_filemode_table"] (importedModules R0.prog.main.body) xt0 true s, hk0.obs s)) =
    some (openGood hd.view_1 [Str.ofString "_filemode_table"], hk0.val w) := by
  unfold topFrom
  rw [PySem.W.Fast.te14082659384304107361, PySem.W.Fast.te14364793385576792824, PySem.W.Fast.te4187177175401517315, PySem.W.Fast.te5923862056798008813]
  kernel_rfl
theorem plain0 : opening R0.prog = plainProg R0.prog.main.scope.names := by kernel_rfl
theorem fence0 (s : Shared) : fenceModules? R0.prog s = some s := by kernel_rfl
theorem left_of_top {p q : Program} {loose : List Str} {Xt : Shared → Bool} {α : Type} {Yf : Shared → α} {Ya : World → α} {N : Nat} (e : opening p = plainProg p.main.scope.names) (hN : Nat.ble 600 N = true) (f : ∀ s, fenceModules? p s = some s)
    (t : ∀ (w : World) (os : OsState), (topFrom treeTable p w N ⟨boot_heap w.params, Array.mk [], boot_drawn, boot_toks, os⟩).map (fun s => (openSeen q loose (importedModules p.main.body) Xt true s, Yf s)) = some (openGood q loose, Ya w)) : LeftO p q loose Xt Yf Ya N := fun w => by
  obtain ⟨⟨h, g, d, k, os⟩, h1, h2⟩ := Option.map_eq_some_iff.mp (boot_open e hN f w)
  cases h2
  unfold openEnds
  rw [h1]
  exact t w os
theorem left0 : LeftO R0.prog hd.view_1 [Str.ofString "_filemode_table"] xt0 hk0.obs hk0.val 1926 := left_of_top plain0 rfl fence0 top0
theorem law_of (h : (PySem.Challenge.rw_op0115_01.row).wellSaid = true → OpenRow.Holds (PySem.Challenge.rw_op0115_01.row)) : PySem.Challenge.rw_op0115_01.Holds := by
  o_law
  exact h (by assumption)

noncomputable abbrev PR : Program := PySem.Challenge.rw_op0115_01.row.prog
noncomputable abbrev Led := List (Addr × Obj)

/-- what a callee leaves: its frame, its ledger, what it promises -/
noncomputable def LeaveM (g : Heap) (Post : Value → Led → Prop) (v : Value) (s s' : Shared) : Prop :=
  ∃ L' m' foot', Fr g L' s'.heap m' ∧ News g L' s'.heap foot' ∧ Post v foot' ∧ ∃ h' tk', s' = { s with heap := h', toks := tk' }

/-- a contract of a call: the footprint, what it needs, what it gives -/
noncomputable def Ct (w : World) (f : Addr) (vs : List Value) (foot : Led) (Pre : Heap → Prop) (dd uu : Nat) (Post : Nat → Value → Led → Prop) : Prop :=
  ∀ (p : Program) (loose : List Str) (mean : ExcName → Option Value) (mg mb : Str → Option Value) (dp un : Nat) (gd : Option (List Code)) (cn : Str) (cs : Scope) (a : Addr) (ccd : Value) (cl : List (Str × Addr))
    (outer : List Env) (A₀ : Around) (base h₀ : Heap) (L : Addr) (m : Str → Option Value) (rest : Led) (s : Shared) (Q E : Value → Shared → Prop),
    Below A₀ base outer h₀ → Fr h₀ L s.heap m → (hd.heap_1 w.params).In h₀ → CodeHd h₀ 41 37 → CodeHd h₀ 34 30 → Top p loose mean mg mb h₀ → cs.kind = .function → News h₀ L s.heap (foot ++ rest) →
    (∀ p ∈ foot, ∀ q ∈ rest, p.1 ≠ q.1) → dp + dd < recursionLimit → un + uu < cLine → Pre s.heap →
    (∀ N r foot' h' tk', (∀ q ∈ (L, tabObj #[]) :: (foot ++ rest), q.1 < N) → Post N r foot' → Fr h₀ L h' m → News h₀ L h' (foot' ++ rest) → Q r { s with heap := h', toks := tk' }) →
    wpAny (model PR w) (ktrTop dp un gd cn cs L a ccd cl outer) (call (.ref f) vs) Q E s

noncomputable def retV : Flow → Value
  | .ret v => v
  | _ => .none
theorem rmD1 {dp D L : Nat} (h : dp + D < L) : dp + 1 + D ≤ L := by rw [Nat.add_right_comm]; exact h
theorem rmU1 {un U L : Nat} (h : un + U < L) : un + 3 + U ≤ L + 2 := by rw [Nat.add_right_comm]; exact Nat.add_le_add_right h 2
section
variable {w : World} {A₀ A : Around} {s : Shared} {base h₀ : Heap} {outer : List Env} {L : Addr} {m : Str → Option Value} {env : Env} {foot rest : Led}
  {R : Result → Shared → Prop}

theorem groundM (B : Below A₀ base outer h₀) (F : Fr h₀ L s.heap m) (N : News h₀ L s.heap (foot ++ rest)) (hdis : ∀ p ∈ foot, ∀ q ∈ rest, p.1 ≠ q.1) (hA : A.frames = some (env :: outer)) (hf : env.frame = some L) (hke : env.scope.kind = .function) :
    let g := hideAll s.heap (foot.map (·.1))
    Below A base (env :: outer) g ∧ h₀.StaysIn g ∧ (∀ b o, s.heap.get? b = some o → b ∉ foot.map (·.1) → g.get? b = some o) ∧
      ∀ (L' : Addr) (m' : Str → Option Value) (foot' : Led) (h' : Heap), Fr g L' h' m' → News g L' h' foot' → Fr h₀ L h' m ∧ News h₀ L h' (foot' ++ rest) := by
  intro g
  have Nf : News h₀ L s.heap foot := fun p hp => N p (List.mem_append_left _ hp)
  obtain ⟨FG, BG, st, _⟩ := groundX (R := fun _ _ => True) B F Nf hA hf hke
  have hg : ∀ b o, s.heap.get? b = some o → b ∉ foot.map (·.1) → g.get? b = some o := fun b o e hb => hideAll_get _ e hb
  refine ⟨BG, st, hg, fun L' m' foot' h' F' N' => ?_⟩
  obtain ⟨oL, es, ep, hL, hLd, hLk, hLf⟩ := FG.ns
  refine ⟨⟨⟨oL, es, ep, F'.keep L oL hL, hLd, hLk, hLf⟩, fun b o e => F'.keep b o (st b o e), F.above⟩, fun p hp => ?_⟩
  rcases List.mem_append.mp hp with hp | hp
  · refine ⟨(N' p hp).1, fun q => ?_, ?_⟩
    · have := (N' p hp).2.2; rw [q, hL] at this; cases this
    · cases q : h₀.get? p.1 with
      | none => rfl
      | some o => have := (N' p hp).2.2; rw [st _ _ q] at this; cases this
  · have P := N p (List.mem_append_right _ hp)
    refine ⟨F'.keep _ _ (hg _ _ P.1 fun q => ?_), P.2⟩
    obtain ⟨x, hx, e⟩ := List.mem_map.mp q
    exact hdis x hx p hp e
end

section
variable {w : World} {name qual : Str} {params : Arguments} {body : List Stmt} {scope : Scope} {dV kV doc pm cdv ct oc : Value} {an od : Option Addr} {osl : Array (Option Value)} {f : Addr} {vs : List Value} {foot : Led}
  {Pre : Heap → Prop} {dd uu : Nat} {Post : Nat → Value → Led → Prop} {binds fr : List (Str × Value)}

/-- a def of the text, without cells: its contract out of its body's walk -/
theorem ct_def (ho : (hd.heap_1 w.params).lookup f = some ⟨oc, od, .func (fnOf name qual params body scope dV kV doc pm an cdv ct), osl⟩) (hcd : codeIn (hd.heap_1 w.params) cdv qual = true)
    (hbind : ∀ s, BindsTo s (fnOf name qual params body scope dV kV doc pm an cdv ct) ⟨vs, []⟩ binds) (hloc : ∀ y ∈ binds, scope.names.lookup y.1 = some .local) (hfr : binds.reverse = fr)
    (hco : scope.isCoroutine = false) (hgen : scope.isGenerator = false) (hk : scope.kind = .function) (hcell : ∀ x ∈ scope.names, x.2 ≠ .cell)
    (h : ∀ (p : Program) (loose : List Str) (mean : ExcName → Option Value) (mg mb : Str → Option Value) (A : Around) (dp un : Nat) (gd : Option (List Code)) (outer : List Env) (base g : Heap) (L' : Addr) (s : Shared) (h₁ : Heap),
      dp + dd ≤ recursionLimit → un + uu ≤ cLine + 2 →
      Pre s.heap → (∀ b o, s.heap.get? b = some o → b ∉ foot.map (·.1) → g.get? b = some o) → Fr g L' h₁ (fun y => List.lookup y fr) → News g L' h₁ foot → (∀ p ∈ foot, p.1 < L') →
      Below A base outer g → (hd.heap_1 w.params).In g → CodeHd g 41 37 → CodeHd g 34 30 → Top p loose mean mg mb g →
      ∀ Q0 : Flow → Shared → Prop, (∀ fl s', LeaveM g (Post L') (retV fl) s s' → Q0 fl s') →
      let A1 := ktrTop dp un gd qual scope L' f cdv [] outer
      let e1 := envX qual scope L' f cdv []
      wpAny (model PR w) A1 (execs body e1)
        Q0 (fun _ _ => False) { s with heap := h₁, toks := s.toks + binds.length }) : Ct w f vs foot Pre dd uu Post := by
  subst hfr
  intro p loose mean mg mb dp un gd cn cs a ccd cl outer A₀ base h₀ L m rest s Q E B F X C1 C2 T hks N hdis hdd huu hpre hret
  obtain ⟨BG, st, hg, back⟩ := groundM (A := ktrTop dp un gd cn cs L a ccd cl outer) (env := envX cn cs L a ccd cl) B F N hdis rfl rfl hks
  refine wpAny_call (codeAny_call_def (fd := fnX name qual params body scope [] dV kV doc pm an cdv ct) (body := body) (binds := binds) (by show dp < _; omega) ((X.keeps F.keep) _ _ ho) rfl (T.nolimit.keeps F.keep)
    (codeRec_of (X.keeps F.keep) hcd) rfl (hbind s) hcell hloc (fun h₁ hns hk₁ => ?_) hco hgen hk)
  have lt : ∀ p ∈ foot ++ rest, p.1 < s.heap.objs.size := fun p hp => Heap.lt_size (N p hp).1
  refine wpAny_mono (h p loose mean mg mb (ktrTop dp un gd cn cs L a ccd cl outer) (dp + 1) (un + 3) gd (envX cn cs L a ccd cl :: outer) base (hideAll s.heap (foot.map (fun x : Addr × Obj => x.1))) s.heap.objs.size s h₁ (rmD1 hdd) (rmU1 huu) hpre hg
    ⟨hns, fun b o e => hk₁ b o (of_hideAll _ e), Nat.le_of_eq (hideAll_size _ _)⟩
    (fun p hp => ⟨hk₁ _ _ (N p (List.mem_append_left _ hp)).1, Nat.ne_of_lt (lt p (List.mem_append_left _ hp)), hideAll_none _ (List.mem_map_of_mem hp)⟩) (fun p hp => lt p (List.mem_append_left _ hp))
    BG (X.keeps st) (C1.keeps st) (C2.keeps st) (T.keeps st) _ fun _ _ x => x) (fun fl s' hl => ?_) fun _ _ y => y.elim
  obtain ⟨L'', m', foot', F', N', hpost, h', tk', rfl⟩ := hl
  obtain ⟨F2, N2⟩ := back _ _ _ _ F' N'
  exact hret _ _ _ _ _ (fun q hq => (List.mem_cons.mp hq).elim (fun e => by rw [e]; exact F.ns.lt) (lt q)) hpost F2 N2
end

/-- a place where the walk is to stop -/
noncomputable def Stop (P : Prop) : Prop := P
theorem stop {P : Prop} (h : Stop P) : P := h

section
variable {w : World} {f : Addr} {vs : List Value} {foot news : Led} {Pre : Heap → Prop} {dd uu : Nat} {Post : Nat → Value → Led → Prop}
  {p : Program} {loose : List Str} {mean : ExcName → Option Value} {mg mb : Str → Option Value} {dp un : Nat} {gd : Option (List Code)} {cn : Str} {cs : Scope} {a : Addr} {ccd : Value} {cl : List (Str × Addr)}
    {outer : List Env} {A₀ : Around} {base h₀ : Heap} {L : Addr} {m : Str → Option Value} {rest : Led} {s : Shared} {Q E : Value → Shared → Prop}
/-- a contract without a footprint, used at a call -/
theorem use0 (C : Ct w f vs [] Pre dd uu Post) (B : Below A₀ base outer h₀) (F : Fr h₀ L s.heap m) (X : (hd.heap_1 w.params).In h₀) (C1 : CodeHd h₀ 41 37) (C2 : CodeHd h₀ 34 30) (T : Top p loose mean mg mb h₀)
    (N : News h₀ L s.heap news) (hk : cs.kind = .function) (hd : dp + dd < recursionLimit) (hu : un + uu < cLine) (hpre : Pre s.heap)
    (ret : ∀ N r foot' h' tk', (∀ q ∈ (L, tabObj #[]) :: news, q.1 < N) → Post N r foot' → Fr h₀ L h' m → News h₀ L h' (foot' ++ news) → Q r { s with heap := h', toks := tk' }) :
    wpAny (model PR w) (ktrTop dp un gd cn cs L a ccd cl outer) (call (.ref f) vs) Q E s :=
  C p loose mean mg mb dp un gd cn cs a ccd cl outer A₀ base h₀ L m news s Q E B F X C1 C2 T hk N (fun _ h => nomatch h) hd hu hpre ret
/-- with a footprint -/
theorem use1 (C : Ct w f vs foot Pre dd uu Post) (B : Below A₀ base outer h₀) (F : Fr h₀ L s.heap m) (X : (hd.heap_1 w.params).In h₀) (C1 : CodeHd h₀ 41 37) (C2 : CodeHd h₀ 34 30) (T : Top p loose mean mg mb h₀)
    (N : News h₀ L s.heap (foot ++ rest)) (hdis : ∀ p ∈ foot, ∀ q ∈ rest, p.1 ≠ q.1) (hk : cs.kind = .function) (hd : dp + dd < recursionLimit) (hu : un + uu < cLine) (hpre : Pre s.heap)
    (ret : ∀ N r foot' h' tk', (∀ q ∈ (L, tabObj #[]) :: (foot ++ rest), q.1 < N) → Post N r foot' → Fr h₀ L h' m → News h₀ L h' (foot' ++ rest) → Q r { s with heap := h', toks := tk' }) :
    wpAny (model PR w) (ktrTop dp un gd cn cs L a ccd cl outer) (call (.ref f) vs) Q E s :=
  C p loose mean mg mb dp un gd cn cs a ccd cl outer A₀ base h₀ L m rest s Q E B F X C1 C2 T hk N hdis hd hu hpre ret
end

theorem lk_cons (y k : Str) (v : Value) (l : List (Str × Value)) : List.lookup y ((k, v) :: l) = if y = k then some v else List.lookup y l := by
  rw [List.lookup_cons]
  by_cases h : y = k
  · subst h; simp
  · rw [if_neg h, beq_eq_false_iff_ne.mpr h]
theorem lk_nil (y : Str) : List.lookup y ([] : List (Str × Value)) = none := rfl
theorem frC {h₀ h : Heap} {L : Addr} {m m' : Str → Option Value} (F : Fr h₀ L h m) (e : ∀ y, m' y = m y) : Fr h₀ L h m' := by
  obtain rfl : m' = m := funext e
  exact F

noncomputable def AllLk (m : Str → Option Value) : List (Str × Value) → Prop
  | [] => True
  | kv :: r => m kv.1 = some kv.2 ∧ AllLk m r
theorem AllLk.lookup {m : Str → Option Value} : ∀ {l : List (Str × Value)}, AllLk m l → ∀ y, y ∈ l.map (·.1) → m y = List.lookup y l
  | (k, v) :: r, ⟨h1, h2⟩, y, hy => by
    rw [lk_cons]
    by_cases e : y = k
    · rw [if_pos e, e]; exact h1
    · rw [if_neg e]
      refine AllLk.lookup h2 y ?_
      rcases List.mem_cons.mp hy with h | h
      · exact absurd h e
      · exact h
theorem lookup_none_of {l : List (Str × Value)} {y : Str} (h : y ∉ l.map (·.1)) : List.lookup y l = none := by
  induction l with
  | nil => rfl
  | cons kv r ih =>
    obtain ⟨k, v⟩ := kv
    simp only [List.map_cons, List.mem_cons, not_or] at h
    rw [lk_cons, if_neg h.1, ih h.2]
/-- a frame told by a written list of its names -/
theorem frL {h₀ h : Heap} {L : Addr} {m : Str → Option Value} (F : Fr h₀ L h m) (l : List (Str × Value)) (h1 : AllLk m l) (h2 : ∀ y, y ∉ l.map (·.1) → m y = none) : Fr h₀ L h (fun y => List.lookup y l) :=
  frC F fun y => by
    by_cases hy : y ∈ l.map (·.1)
    · exact (h1.lookup y hy).symm
    · rw [lookup_none_of hy, h2 y hy]

/-- a while by an invariant over the frame's names and the ledger -/
noncomputable def WStep (h₀ : Heap) (L : Addr) (s : Shared) (J : Nat → (Str → Option Value) → Led → Prop) (n : Nat) (f : Flow) (s₃ : Shared) : Prop :=
  f = .next ∧ ∃ h' tk m₂ news₂ n', s₃ = { s with heap := h', toks := tk } ∧ Fr h₀ L h' m₂ ∧ News h₀ L h' news₂ ∧ n' < n ∧ J n' m₂ news₂
theorem whileM {w : World} {A : Around} {Q : Flow → Shared → Prop} {s : Shared} {env : Env} {h₀ : Heap} {L : Addr} {test : Expr} {body : List Stmt} {pos : Pos} {m : Str → Option Value} {news : Led} {n₀ : Nat}
    (J : Nat → (Str → Option Value) → Led → Prop) (F : Fr h₀ L s.heap m) (N : News h₀ L s.heap news) (hJ : J n₀ m news)
    (turn : ∀ n m₁ news₁ h₁ tk₁, Fr h₀ L h₁ m₁ → News h₀ L h₁ news₁ → J n m₁ news₁ → ∀ Q1 : Flow → Shared → Prop, (∀ f s', WStep h₀ L s J n f s' → Q1 f s') →
      wpAny (model PR w) A (isTrue test env (eval test env)) (fun b s₂ =>
        if b = true then wpAny (model PR w) A (execs body env) Q1 (fun _ _ => False) s₂ else Q .next s₂) (fun _ _ => False) { s with heap := h₁, toks := tk₁ }) :
    wpAny (model PR w) A (exec (.While test body [] pos) env) Q (fun _ _ => False) s := by
  refine While_inv J F N hJ ?_ PassesOwn.never
  intro n m₁ news₁ h₁ tk₁ F₁ N₁ hJ₁
  refine wpAny_mono (turn n m₁ news₁ h₁ tk₁ F₁ N₁ hJ₁ _ fun _ _ x => x) (fun b s₂ h₂ => ?_) fun _ _ x => x
  cases b with
  | false => simpa only [Bool.false_eq_true, if_false] using h₂
  | true =>
    simp only [if_true] at h₂ ⊢
    refine wpAny_mono h₂ (fun f s₃ h₃ => ?_) fun _ _ x => x
    obtain ⟨rfl, h', tk, m₂, news₂, n', rfl, F₂, N₂, hn, J₂⟩ := h₃
    exact ⟨rfl, h', tk, m₂, news₂, n', rfl, F₂, N₂, hn, J₂⟩
theorem WStep.intro {h₀ h' : Heap} {L : Addr} {s : Shared} {J : Nat → (Str → Option Value) → Led → Prop} {n n' tk : Nat} {m₂ : Str → Option Value} {news₂ : Led}
    (F : Fr h₀ L h' m₂) (N : News h₀ L h' news₂) (hn : n' < n) (hJ : J n' m₂ news₂) : WStep h₀ L s J n .next { s with heap := h', toks := tk } :=
  ⟨rfl, h', tk, m₂, news₂, n', rfl, F, N, hn, hJ⟩

theorem newTupleM {M : Model} {A : Around} {E : Value → Shared → Prop} {s : Shared} {h₀ : Heap} {L : Addr} {m : Str → Option Value} {news : Led} {vs : List Value} {Q : Value → Shared → Prop} (F : Fr h₀ L s.heap m) (N : News h₀ L s.heap news)
    (h : ∀ l h', Fr h₀ L h' m → News h₀ L h' ((l, { cls := .type "tuple", data := .seq vs.toArray }) :: news) → (∀ p ∈ news, p.1 < l) → L < l → Q (.ref l) { s with heap := h' }) (hsz : vs.length ≤ sizeLine := by size_fits) : wpAny M A (newTuple vs) Q E s :=
  newTuple_N F N (fun h' F' N' => h _ h' F' N' (fun p hp => Heap.lt_size (N p hp).1) F.ns.lt) hsz
theorem newListM {M : Model} {A : Around} {E : Value → Shared → Prop} {s : Shared} {h₀ : Heap} {L : Addr} {m : Str → Option Value} {news : Led} {vs : List Value} {Q : Value → Shared → Prop} (F : Fr h₀ L s.heap m) (N : News h₀ L s.heap news)
    (h : ∀ l h', Fr h₀ L h' m → News h₀ L h' ((l, listOf vs.toArray 0) :: news) → (∀ p ∈ news, p.1 < l) → L < l → Q (.ref l) { s with heap := h' }) (hsz : vs.length ≤ sizeLine := by size_fits) : wpAny M A (newList vs) Q E s :=
  newList_N F N (fun h' F' N' => h _ h' F' N' (fun p hp => Heap.lt_size (N p hp).1) F.ns.lt) hsz
theorem sh_ok {a n : Int} {m : Nat} (h : intBits a ≤ m) (h2 : (m : Int) + n ≤ 134217728) : (intBits a : Int) + n ≤ 2 ^ 27 := by
  have : (intBits a : Int) ≤ m := by exact_mod_cast h
  omega
theorem bits_of_lt {x : Int} {n k : Nat} (h0 : 0 ≤ x) (h : x < 2 ^ n) (hk : n ≤ k) : intBits x ≤ k := by
  refine intBits_le_iff.mpr ?_
  obtain ⟨a, rfl⟩ := Int.eq_ofNat_of_zero_le h0
  have : ((a : Nat) : Int) < ((2 ^ n : Nat) : Int) := by push_cast; exact h
  have h2 : a < 2 ^ n := by exact_mod_cast this
  exact Nat.lt_of_lt_of_le h2 (Nat.pow_le_pow_right (by decide) hk)
theorem lt_of_bits {x : Int} {k : Nat} (h : intBits x ≤ k) : x < 2 ^ k := by
  refine Int.lt_of_le_of_lt (Int.le_natAbs) ?_
  have := Int.ofNat_lt.mpr (intBits_le_iff.mp h)
  rwa [Int.natCast_pow] at this
noncomputable abbrev tup2 (x y : Int) (t t' : Tok) : Obj := { cls := .type "tuple", data := .seq #[.int x t, .int y t'] }
/-- a pair of ints comes back -/
noncomputable def PairPost (x y : Int) (N : Nat) (r : Value) (foot' : Led) : Prop := ∀ M : Value → Led → Prop, (∀ a t t', N ≤ a → M (.ref a) [(a, tup2 x y t t')]) → M r foot'
/-- one int -/
noncomputable def IntPost (v : Int) (_ : Nat) (r : Value) (foot' : Led) : Prop := ∀ M : Value → Led → Prop, (∀ t, M (.int v t) []) → M r foot'
theorem leave {g h : Heap} {L : Addr} {m : Str → Option Value} {s : Shared} {tk : Nat} {Post : Value → Led → Prop} {fl : Flow} {foot' : Led} {Q0 : Flow → Shared → Prop} (hQ0 : ∀ fl s', LeaveM g Post (retV fl) s s' → Q0 fl s') (F : Fr g L h m) (N : News g L h foot')
    (hp : Post (retV fl) foot') : Q0 fl { s with heap := h, toks := tk } := hQ0 _ _ ⟨_, _, _, F, N, hp, _, _, rfl⟩
section
variable {w : World} {f : Addr} {vs : List Value} {foot news : Led} {Pre : Heap → Prop} {dd uu : Nat} {p : Program} {loose : List Str} {mean : ExcName → Option Value} {mg mb : Str → Option Value} {dp un : Nat} {gd : Option (List Code)} {cn : Str} {cs : Scope} {a : Addr} {ccd : Value} {cl : List (Str × Addr)}
    {outer : List Env} {A₀ : Around} {base h₀ : Heap} {L : Addr} {m : Str → Option Value} {s : Shared} {Q E : Value → Shared → Prop} {x y : Int}
/-- a contract that gives a pair of ints, used -/
theorem useP (C : Ct w f vs [] Pre dd uu (PairPost x y)) (B : Below A₀ base outer h₀) (F : Fr h₀ L s.heap m) (X : (hd.heap_1 w.params).In h₀) (C1 : CodeHd h₀ 41 37) (C2 : CodeHd h₀ 34 30) (T : Top p loose mean mg mb h₀)
    (N : News h₀ L s.heap news) (hk : cs.kind = .function) (hd : dp + dd < recursionLimit) (hu : un + uu < cLine) (hpre : Pre s.heap)
    (ret : ∀ a t t' h' tk', (∀ q ∈ (L, tabObj #[]) :: news, q.1 < a) → Fr h₀ L h' m → News h₀ L h' ((a, tup2 x y t t') :: news) → Q (.ref a) { s with heap := h', toks := tk' }) :
    wpAny (model PR w) (ktrTop dp un gd cn cs L a ccd cl outer) (call (.ref f) vs) Q E s :=
  use0 C B F X C1 C2 T N hk hd hu hpre fun _ r foot' h' tk' hlt hp F' N' => hp (fun r foot' => News h₀ L h' (foot' ++ news) → Q r { s with heap := h', toks := tk' }) (fun a t t' hle N' => ret a t t' h' tk' (fun q hq => Nat.lt_of_lt_of_le (hlt q hq) hle) F' N') N'
/-- one that gives an int -/
theorem useI (C : Ct w f vs [] Pre dd uu (IntPost x)) (B : Below A₀ base outer h₀) (F : Fr h₀ L s.heap m) (X : (hd.heap_1 w.params).In h₀) (C1 : CodeHd h₀ 41 37) (C2 : CodeHd h₀ 34 30) (T : Top p loose mean mg mb h₀)
    (N : News h₀ L s.heap news) (hk : cs.kind = .function) (hd : dp + dd < recursionLimit) (hu : un + uu < cLine) (hpre : Pre s.heap)
    (ret : ∀ t h' tk', Fr h₀ L h' m → News h₀ L h' news → Q (.int x t) { s with heap := h', toks := tk' }) :
    wpAny (model PR w) (ktrTop dp un gd cn cs L a ccd cl outer) (call (.ref f) vs) Q E s :=
  use0 C B F X C1 C2 T N hk hd hu hpre fun _ r foot' h' tk' hlt hp F' N' => hp (fun r foot' => News h₀ L h' (foot' ++ news) → Q r { s with heap := h', toks := tk' }) (fun t N' => ret t h' tk' F' N') N'
end
/-- what comes back, told by what it lets one show -/
noncomputable def Imp (K : Nat → (Value → Led → Prop) → Prop) (N : Nat) (v : Value) (foot' : Led) : Prop := ∀ M : Value → Led → Prop, K N M → M v foot'
theorem impI {u v : Int} {t : Tok} {foot : Led} (e : u = v) (M : Value → Led → Prop) (k : ∀ t, M (.int v t) foot) : M (.int u t) foot := e ▸ k t
section
variable {w : World} {f : Addr} {vs : List Value} {foot rest : Led} {Pre : Heap → Prop} {dd uu : Nat} {p : Program} {loose : List Str} {mean : ExcName → Option Value} {mg mb : Str → Option Value} {dp un : Nat} {gd : Option (List Code)} {cn : Str} {cs : Scope} {a : Addr} {ccd : Value} {cl : List (Str × Addr)}
    {outer : List Env} {A₀ : Around} {base h₀ : Heap} {L : Addr} {m : Str → Option Value} {s : Shared} {Q E : Value → Shared → Prop} {K : Nat → (Value → Led → Prop) → Prop}
theorem useK (C : Ct w f vs foot Pre dd uu (Imp K)) (B : Below A₀ base outer h₀) (F : Fr h₀ L s.heap m) (X : (hd.heap_1 w.params).In h₀) (C1 : CodeHd h₀ 41 37) (C2 : CodeHd h₀ 34 30) (T : Top p loose mean mg mb h₀)
    (N : News h₀ L s.heap (foot ++ rest)) (hdis : ∀ p ∈ foot, ∀ q ∈ rest, p.1 ≠ q.1) (hk : cs.kind = .function) (hd : dp + dd < recursionLimit) (hu : un + uu < cLine) (hpre : Pre s.heap)
    (ret : ∀ N h' tk', (∀ q ∈ (L, tabObj #[]) :: (foot ++ rest), q.1 < N) → Fr h₀ L h' m → K N (fun v foot' => News h₀ L h' (foot' ++ rest) → Q v { s with heap := h', toks := tk' })) :
    wpAny (model PR w) (ktrTop dp un gd cn cs L a ccd cl outer) (call (.ref f) vs) Q E s :=
  use1 C B F X C1 C2 T N hdis hk hd hu hpre fun N _ _ h' tk' hlt hp F' N' => hp _ (ret N h' tk' hlt F') N'
/-- nothing beside the footprint -/
theorem useK0 (C : Ct w f vs foot Pre dd uu (Imp K)) (B : Below A₀ base outer h₀) (F : Fr h₀ L s.heap m) (X : (hd.heap_1 w.params).In h₀) (C1 : CodeHd h₀ 41 37) (C2 : CodeHd h₀ 34 30) (T : Top p loose mean mg mb h₀)
    (N : News h₀ L s.heap foot) (hk : cs.kind = .function) (hd : dp + dd < recursionLimit) (hu : un + uu < cLine) (hpre : Pre s.heap)
    (ret : ∀ N h' tk', (∀ q ∈ (L, tabObj #[]) :: foot, q.1 < N) → Fr h₀ L h' m → K N (fun v foot' => News h₀ L h' foot' → Q v { s with heap := h', toks := tk' })) :
    wpAny (model PR w) (ktrTop dp un gd cn cs L a ccd cl outer) (call (.ref f) vs) Q E s :=
  use1 (rest := []) C B F X C1 C2 T (by rw [List.append_nil]; exact N) (fun _ _ _ h => nomatch h) hk hd hu hpre fun N _ foot' h' tk' hlt hp F' N' => hp _ (ret N h' tk' (by rw [List.append_nil] at hlt; exact hlt) F') (by rw [List.append_nil] at N'; exact N')
end
/-- a value comes back, nothing beside -/
noncomputable abbrev ValPost (v : Tok → Value) := Imp fun _ M => ∀ t, M (v t) []
section
variable {w : World} {f : Addr} {vs : List Value} {news : Led} {Pre : Heap → Prop} {dd uu : Nat} {p : Program} {loose : List Str} {mean : ExcName → Option Value} {mg mb : Str → Option Value} {dp un : Nat} {gd : Option (List Code)} {cn : Str} {cs : Scope} {a : Addr} {ccd : Value} {cl : List (Str × Addr)}
    {outer : List Env} {A₀ : Around} {base h₀ : Heap} {L : Addr} {m : Str → Option Value} {s : Shared} {Q E : Value → Shared → Prop} {v : Tok → Value}
theorem useV (C : Ct w f vs [] Pre dd uu (ValPost v)) (B : Below A₀ base outer h₀) (F : Fr h₀ L s.heap m) (X : (hd.heap_1 w.params).In h₀) (C1 : CodeHd h₀ 41 37) (C2 : CodeHd h₀ 34 30) (T : Top p loose mean mg mb h₀)
    (N : News h₀ L s.heap news) (hk : cs.kind = .function) (hd : dp + dd < recursionLimit) (hu : un + uu < cLine) (hpre : Pre s.heap)
    (ret : ∀ t h' tk', Fr h₀ L h' m → News h₀ L h' news → Q (v t) { s with heap := h', toks := tk' }) :
    wpAny (model PR w) (ktrTop dp un gd cn cs L a ccd cl outer) (call (.ref f) vs) Q E s :=
  use0 C B F X C1 C2 T N hk hd hu hpre fun _ r foot' h' tk' hlt hp F' N' => hp (fun r foot' => News h₀ L h' (foot' ++ news) → Q r { s with heap := h', toks := tk' }) (fun t N' => ret t h' tk' F' N') N'
end
/-- a ledger in pieces -/
noncomputable def cat : List Led → Led
  | [] => []
  | [b] => b
  | b :: c :: r => b ++ cat (c :: r)
theorem mem_cat {x : Addr × Obj} : ∀ {bs : List Led}, x ∈ cat bs ↔ ∃ b ∈ bs, x ∈ b
  | [] => by
    constructor
    · intro h; exact nomatch h
    · rintro ⟨_, h, _⟩; exact nomatch h
  | [b] => by
    constructor
    · intro h; exact ⟨b, .head _, h⟩
    · rintro ⟨c, h, k⟩; rw [List.mem_singleton.mp h] at k; exact k
  | b :: c :: r => by
    show x ∈ b ++ cat (c :: r) ↔ _
    rw [List.mem_append, mem_cat (bs := c :: r)]
    constructor
    · rintro (h | ⟨d, h, k⟩)
      · exact ⟨b, .head _, h⟩
      · exact ⟨d, .tail _ h, k⟩
    · rintro ⟨d, h, k⟩
      rcases List.mem_cons.mp h with rfl | h
      · exact .inl k
      · exact .inr ⟨d, h, k⟩
theorem cat_pick {bs : List Led} (ix : List Nat) {x : Addr × Obj} (h : x ∈ cat (ix.map fun i => bs.getD i [])) : x ∈ cat bs := by
  obtain ⟨b, hb, hx⟩ := mem_cat.mp h
  obtain ⟨i, _, rfl⟩ := List.mem_map.mp hb
  rw [List.getD_eq_getElem?_getD] at hx
  cases e : bs[i]? with
  | none => rw [e] at hx; exact nomatch hx
  | some c => rw [e] at hx; exact mem_cat.mpr ⟨c, List.mem_of_getElem? e, hx⟩
section
variable {prog : Program} {w : World} {A : Around} {E : Value → Shared → Prop} {hx0 : Heap} {gn : Array GenState} {dr : Drawn} {tk : Nat} {os : OsState} {a n v : Int} {t u : Tok} {Q : Value → Shared → Prop}
theorem rshift_to (hn : 0 ≤ n) (e : a.fdiv (2 ^ n.toNat) = v) (h : Q (.int v tk) ⟨hx0, gn, dr, tk.succ, os⟩) : wpAny (model prog w) A (binaryOp .RShift (.int a t) (.int n u)) Q E ⟨hx0, gn, dr, tk, os⟩ := rshift_int hn (e ▸ h)
theorem irshift_to (hn : 0 ≤ n) (e : a.fdiv (2 ^ n.toNat) = v) (h : Q (.int v tk) ⟨hx0, gn, dr, tk.succ, os⟩) : wpAny (model prog w) A (inplaceOp .RShift (.int a t) (.int n u)) Q E ⟨hx0, gn, dr, tk, os⟩ := irshift_int hn (e ▸ h)
theorem lshift_to {m : Nat} (hn : 0 ≤ n) (hb : intBits a ≤ m) (h2 : (m : Int) + n ≤ 134217728) (e : a * 2 ^ n.toNat = v) (h : Q (.int v tk) ⟨hx0, gn, dr, tk.succ, os⟩) : wpAny (model prog w) A (binaryOp .LShift (.int a t) (.int n u)) Q E ⟨hx0, gn, dr, tk, os⟩ := lshift_int hn (sh_ok hb h2) (e ▸ h)
theorem ilshift_to {m : Nat} (hn : 0 ≤ n) (hb : intBits a ≤ m) (h2 : (m : Int) + n ≤ 134217728) (e : a * 2 ^ n.toNat = v) (h : Q (.int v tk) ⟨hx0, gn, dr, tk.succ, os⟩) : wpAny (model prog w) A (inplaceOp .LShift (.int a t) (.int n u)) Q E ⟨hx0, gn, dr, tk, os⟩ := ilshift_int hn (sh_ok hb h2) (e ▸ h)
theorem and_to (e : Builtin.bitAnd a n = v) (h : Q (.int v tk) ⟨hx0, gn, dr, tk.succ, os⟩) : wpAny (model prog w) A (binaryOp .BitAnd (.int a t) (.int n u)) Q E ⟨hx0, gn, dr, tk, os⟩ := and_int (e ▸ h)
theorem or_to (e : Builtin.bitOr a n = v) (h : Q (.int v tk) ⟨hx0, gn, dr, tk.succ, os⟩) : wpAny (model prog w) A (binaryOp .BitOr (.int a t) (.int n u)) Q E ⟨hx0, gn, dr, tk, os⟩ := or_int (e ▸ h)
theorem xor_to (e : Builtin.bitXor a n = v) (h : Q (.int v tk) ⟨hx0, gn, dr, tk.succ, os⟩) : wpAny (model prog w) A (binaryOp .BitXor (.int a t) (.int n u)) Q E ⟨hx0, gn, dr, tk, os⟩ := xor_int (e ▸ h)
theorem add_to (e : a + n = v) (h : Q (.int v tk) ⟨hx0, gn, dr, tk.succ, os⟩) : wpAny (model prog w) A (binaryOp .Add (.int a t) (.int n u)) Q E ⟨hx0, gn, dr, tk, os⟩ := add_int (e ▸ h)
theorem iadd_to (e : a + n = v) (h : Q (.int v tk) ⟨hx0, gn, dr, tk.succ, os⟩) : wpAny (model prog w) A (inplaceOp .Add (.int a t) (.int n u)) Q E ⟨hx0, gn, dr, tk, os⟩ := iadd_int (e ▸ h)
theorem sub_to (e : a - n = v) (h : Q (.int v tk) ⟨hx0, gn, dr, tk.succ, os⟩) : wpAny (model prog w) A (binaryOp .Sub (.int a t) (.int n u)) Q E ⟨hx0, gn, dr, tk, os⟩ := sub_int (e ▸ h)
theorem mul_to {m k : Nat} (hb : intBits a ≤ m) (hc : intBits n ≤ k) (h2 : m + k ≤ 134217728) (e : a * n = v) (h : Q (.int v tk) ⟨hx0, gn, dr, tk.succ, os⟩) : wpAny (model prog w) A (binaryOp .Mult (.int a t) (.int n u)) Q E ⟨hx0, gn, dr, tk, os⟩ := mul_int (e ▸ h) (IntMulOk.of_le hb hc h2)
theorem imul_to {m k : Nat} (hb : intBits a ≤ m) (hc : intBits n ≤ k) (h2 : m + k ≤ 134217728) (e : a * n = v) (h : Q (.int v tk) ⟨hx0, gn, dr, tk.succ, os⟩) : wpAny (model prog w) A (inplaceOp .Mult (.int a t) (.int n u)) Q E ⟨hx0, gn, dr, tk, os⟩ := imul_int (e ▸ h) (IntMulOk.of_le hb hc h2)
theorem mod_to (hb : n ≠ 0) (e : a.fmod n = v) (h : Q (.int v tk) ⟨hx0, gn, dr, tk.succ, os⟩) : wpAny (model prog w) A (binaryOp .Mod (.int a t) (.int n u)) Q E ⟨hx0, gn, dr, tk, os⟩ := mod_int' hb (e ▸ h)
theorem floordiv_to (hb : n ≠ 0) (hp : Builtin.divisionGoesByPylong a n = false) (e : a.fdiv n = v) (h : Q (.int v tk) ⟨hx0, gn, dr, tk.succ, os⟩) : wpAny (model prog w) A (binaryOp .FloorDiv (.int a t) (.int n u)) Q E ⟨hx0, gn, dr, tk, os⟩ := floordiv_int hb (e ▸ h) (.inl hp)
theorem ifloordiv_to (hb : n ≠ 0) (hp : Builtin.divisionGoesByPylong a n = false) (e : a.fdiv n = v) (h : Q (.int v tk) ⟨hx0, gn, dr, tk.succ, os⟩) : wpAny (model prog w) A (inplaceOp .FloorDiv (.int a t) (.int n u)) Q E ⟨hx0, gn, dr, tk, os⟩ := ifloordiv_int hb (e ▸ h) (.inl hp)
theorem constE {i : Int} {kd : Nat} {pos : Pos} {env : Env} {M : Model} (h : Q (.int i tk) ⟨hx0, gn, dr, tk.succ, os⟩) : wpAny M A (eval (.Constant (.int i) kd pos) env) Q E ⟨hx0, gn, dr, tk, os⟩ := wpAny_Constant_int h
end
theorem bits_ediv_le {x : Int} {k m : Nat} (h : intBits x ≤ m) : intBits (x / 2 ^ k) ≤ m := by
  have := intBits_fdiv_le (y := 2 ^ k) h
  rwa [Int.fdiv_eq_ediv_of_nonneg _ (Int.le_of_lt (Int.pow_pos (by decide)))] at this
section
variable {w : World} {name qual : Str} {params : Arguments} {body : List Stmt} {scope : Scope} {dV kV doc pm cdv ct oc : Value} {an od : Option Addr} {osl : Array (Option Value)} {f : Addr} {vs : List Value} {foot : Led}
  {Pre : Heap → Prop} {dd uu : Nat} {Post : Nat → Value → Led → Prop} {binds fr : List (Str × Value)}

/-- a def of the text with cells -/
theorem ct_defC (ho : (hd.heap_1 w.params).lookup f = some ⟨oc, od, .func (fnOf name qual params body scope dV kV doc pm an cdv ct), osl⟩) (hcd : codeIn (hd.heap_1 w.params) cdv qual = true)
    (hbind : ∀ s, BindsTo s (fnOf name qual params body scope dV kV doc pm an cdv ct) ⟨vs, []⟩ binds)
    (hkind : (binds.all fun y => scope.names.lookup y.1 == some .local || scope.names.lookup y.1 == some .cell) = true)
    (hnd : ((cellsFrom 0 scope.names []).map (·.1)).Nodup)
    (hco : scope.isCoroutine = false) (hgen : scope.isGenerator = false) (hk : scope.kind = .function)
    (h : ∀ (p : Program) (loose : List Str) (mean : ExcName → Option Value) (mg mb : Str → Option Value) (A : Around) (dp un : Nat) (gd : Option (List Code)) (outer : List Env) (base g : Heap) (L' : Addr) (s : Shared) (h₁ : Heap) (tk : Nat) (cells : Led),
      dp + dd ≤ recursionLimit → un + uu ≤ cLine + 2 →
      Pre s.heap → (∀ b o, s.heap.get? b = some o → b ∉ foot.map (·.1) → g.get? b = some o) → Fr g L' h₁ (bindL (envOfC qual scope L' f cdv).kindOf binds fun _ => none) → News g L' h₁ (cells ++ foot) →
      CellsAre (bindC (envOfC qual scope L' f cdv).kindOf binds fun _ => none) (cellsFrom (L' + 1) scope.names []) cells → (∀ p ∈ foot, p.1 < L') →
      Below A base outer g → (hd.heap_1 w.params).In g → CodeHd g 41 37 → CodeHd g 34 30 → Top p loose mean mg mb g →
      ∀ Q0 : Flow → Shared → Prop, (∀ fl s', LeaveM g (Post L') (retV fl) s s' → Q0 fl s') →
      let A1 := ktrTop dp un gd qual scope L' f cdv (cellsFrom (L' + 1) scope.names []) outer
      let e1 := envX qual scope L' f cdv (cellsFrom (L' + 1) scope.names [])
      wpAny (model PR w) A1 (execs body e1)
        Q0 (fun _ _ => False) { s with heap := h₁, toks := tk }) : Ct w f vs foot Pre dd uu Post := by
  intro p loose mean mg mb dp un gd cn cs a ccd cl outer A₀ base h₀ L m rest s Q E B F X C1 C2 T hks N hdis hdd huu hpre hret
  obtain ⟨BG, st, hg, back⟩ := groundM (A := ktrTop dp un gd cn cs L a ccd cl outer) (env := envX cn cs L a ccd cl) B F N hdis rfl rfl hks
  refine wpAny_call (codeAny_call_function (by show dp < _; omega) ((X.keeps F.keep) _ _ ho) rfl hco hgen rfl (codeRec_of (X.keeps F.keep) hcd) (hbind _ _ _ _ _ ?_))
  refine wpAny_newFunctionEnv_cells hk (kindsX hkind _) fun env' he s' x => ?_
  subst he
  refine ⟨(T.nolimit.keeps F.keep).keeps x.toInCall.keep, codeAny_func ?_⟩
  obtain ⟨h₁, tk, rfl, _⟩ := x.done
  have hk₁ := x.toInCall.keep
  have lt : ∀ p ∈ foot ++ rest, p.1 < s.heap.objs.size := fun p hp => Heap.lt_size (N p hp).1
  obtain ⟨cells, NC, Y⟩ := Cl.news (h₀ := s.heap) (Nat.le_refl _) fun n c hm => ⟨x.cell n c (lookup_of_mem_nodup (cellsFrom_names scope.names 0 (s.heap.objs.size + 1) [] [] rfl ▸ hnd) hm), x.above n c hm⟩
  refine wpAny_mono (h p loose mean mg mb (ktrTop dp un gd cn cs L a ccd cl outer) (dp + 1) (un + 3) gd (envX cn cs L a ccd cl :: outer) base (hideAll s.heap (foot.map (fun x : Addr × Obj => x.1))) s.heap.objs.size s h₁ tk cells (rmD1 hdd) (rmU1 huu) hpre hg
    ⟨x.toInCall.ns, fun b o e => hk₁ b o (of_hideAll _ e), Nat.le_of_eq (hideAll_size _ _)⟩ (fun p hp => ?_) Y (fun p hp => lt p (List.mem_append_left _ hp))
    BG (X.keeps st) (C1.keeps st) (C2.keeps st) (T.keeps st) _ fun _ _ x => x) (fun fl s' hl => ?_) fun _ _ y => y.elim
  · rcases List.mem_append.mp hp with hp | hp
    · refine ⟨(NC p hp).1, (NC p hp).2.1, ?_⟩
      cases q : (hideAll s.heap (foot.map (fun x : Addr × Obj => x.1))).get? p.1 with
      | none => rfl
      | some o => have := of_hideAll _ q; rw [(NC p hp).2.2] at this; cases this
    · exact ⟨hk₁ _ _ (N p (List.mem_append_left _ hp)).1, Nat.ne_of_lt (lt p (List.mem_append_left _ hp)), hideAll_none _ (List.mem_map_of_mem hp)⟩
  · obtain ⟨L'', m', foot', F', N', hpost, h', tk', rfl⟩ := hl
    obtain ⟨F2, N2⟩ := back _ _ _ _ F' N'
    exact hret _ _ _ _ _ (fun q hq => (List.mem_cons.mp hq).elim (fun e => by rw [e]; exact F.ns.lt) (lt q)) hpost F2 N2

/-- a def that the call has made, over its footprint -/
theorem ct_nest {cl : List (Str × Addr)} {ctv : Value} {c' : Addr} {ocd : Obj} {cvs : Array Value} {ctk : Tok}
    (ho : (f, fnMade name qual params body scope cl doc pm c' ctv) ∈ foot) (hc : (c', ocd) ∈ foot) (hcd : ocd.data = .fields cvs) (hcv : cvs[1]? = some (.str qual ctk))
    (hbind : ∀ s, BindsTo s (fnX name qual params body scope cl .none .none doc pm none (.ref c') ctv) ⟨vs, []⟩ binds) (hloc : ∀ y ∈ binds, scope.names.lookup y.1 = some .local) (hfr : binds.reverse = fr)
    (hco : scope.isCoroutine = false) (hgen : scope.isGenerator = false) (hk : scope.kind = .function) (hcell : ∀ x ∈ scope.names, x.2 ≠ .cell)
    (h : ∀ (p : Program) (loose : List Str) (mean : ExcName → Option Value) (mg mb : Str → Option Value) (A : Around) (dp un : Nat) (gd : Option (List Code)) (outer : List Env) (base g : Heap) (L' : Addr) (s : Shared) (h₁ : Heap),
      dp + dd ≤ recursionLimit → un + uu ≤ cLine + 2 →
      Pre s.heap → (∀ b o, s.heap.get? b = some o → b ∉ foot.map (·.1) → g.get? b = some o) → Fr g L' h₁ (fun y => List.lookup y fr) → News g L' h₁ foot → (∀ p ∈ foot, p.1 < L') →
      Below A base outer g → (hd.heap_1 w.params).In g → CodeHd g 41 37 → CodeHd g 34 30 → Top p loose mean mg mb g →
      ∀ Q0 : Flow → Shared → Prop, (∀ fl s', LeaveM g (Post L') (retV fl) s s' → Q0 fl s') →
      let A1 := ktrTop dp un gd qual scope L' f (.ref c') cl outer
      let e1 := envX qual scope L' f (.ref c') cl
      wpAny (model PR w) A1 (execs body e1)
        Q0 (fun _ _ => False) { s with heap := h₁, toks := s.toks + binds.length }) : Ct w f vs foot Pre dd uu Post := by
  subst hfr
  intro p loose mean mg mb dp un gd cn cs a ccd cl' outer A₀ base h₀ L m rest s Q E B F X C1 C2 T hks N hdis hdd huu hpre hret
  obtain ⟨BG, st, hg, back⟩ := groundM (A := ktrTop dp un gd cn cs L a ccd cl' outer) (env := envX cn cs L a ccd cl') B F N hdis rfl rfl hks
  refine wpAny_call (codeAny_call_def (fd := fnX name qual params body scope cl .none .none doc pm none (.ref c') ctv) (body := body) (binds := binds) (by show dp < _; omega) (N _ (List.mem_append_left _ ho)).1 rfl (T.nolimit.keeps F.keep)
    (codeRec_news (fun p hp => N p (List.mem_append_left _ hp)) hc hcd hcv) rfl (hbind s) hcell hloc (fun h₁ hns hk₁ => ?_) hco hgen hk)
  have lt : ∀ p ∈ foot ++ rest, p.1 < s.heap.objs.size := fun p hp => Heap.lt_size (N p hp).1
  refine wpAny_mono (h p loose mean mg mb (ktrTop dp un gd cn cs L a ccd cl' outer) (dp + 1) (un + 3) gd (envX cn cs L a ccd cl' :: outer) base (hideAll s.heap (foot.map (fun x : Addr × Obj => x.1))) s.heap.objs.size s h₁ (rmD1 hdd) (rmU1 huu) hpre hg
    ⟨hns, fun b o e => hk₁ b o (of_hideAll _ e), Nat.le_of_eq (hideAll_size _ _)⟩
    (fun p hp => ⟨hk₁ _ _ (N p (List.mem_append_left _ hp)).1, Nat.ne_of_lt (lt p (List.mem_append_left _ hp)), hideAll_none _ (List.mem_map_of_mem hp)⟩) (fun p hp => lt p (List.mem_append_left _ hp))
    BG (X.keeps st) (C1.keeps st) (C2.keeps st) (T.keeps st) _ fun _ _ x => x) (fun fl s' hl => ?_) fun _ _ y => y.elim
  obtain ⟨L'', m', foot', F', N', hpost, h', tk', rfl⟩ := hl
  obtain ⟨F2, N2⟩ := back _ _ _ _ F' N'
  exact hret _ _ _ _ _ (fun q hq => (List.mem_cons.mp hq).elim (fun e => by rw [e]; exact F.ns.lt) (lt q)) hpost F2 N2
end

/-- the table of a def that makes a def: empty, or with the one code that it has made -/
noncomputable def TOK (P : Addr) (ln col : Nat) (q : Str) (o : Obj) (c : Addr) (oc : Obj) : Prop :=
  (o = tabObj #[] ∧ c = P ∧ oc = tabObj #[]) ∨ (o = tabObj #[rawInt ln, rawInt col, .ref c] ∧ c ≠ P ∧ ∃ vs t, oc.data = .fields vs ∧ vs[1]? = some (.str q t))
theorem news_sub {h₀ h : Heap} {L : Addr} {l l' : Led} (N : News h₀ L h l) (hs : ∀ p ∈ l', p ∈ l) : News h₀ L h l' := fun p hp => N p (hs p hp)
/-- the pieces of a ledger in another order -/
theorem news_pick {h₀ h : Heap} {L : Addr} (bs : List Led) (ix : List Nat) (N : News h₀ L h (cat bs)) : News h₀ L h (cat (ix.map fun i => bs.getD i [])) := news_sub N fun _ hp => cat_pick ix hp
theorem item_to {prog : Program} {w : World} {A : Around} {E : Value → Shared → Prop} {s : Shared} {value slice : PySem.Expr} {l : Addr} {vs : List Value} {k : Int} {u : Tok} {v : Value} {Q : Value → Shared → Prop}
    (hl : s.heap.IsList l vs.toArray) (h0 : 0 ≤ k) (hhi : k < 2 ^ 63) (hx : vs[k.toNat]? = some v) (h : Q v s)
    (hs : subscripted slice false (.ref l) (.int k u) = operate [.ref l, .int k u] (getItem (.ref l) (.int k u)) := by with_unfolding_all rfl) :
    wpAny (model prog w) A (subscriptTail value slice (.ref l) (.int k u)) Q E s :=
  tail_any hl.typeIs slot_list_getitem.lookup (wpAny_getItem_list hl h0 hhi (by simpa using hx) h) hs
theorem intsAre_get : ∀ {vs : List Value} {ns : List Int} {i : Nat}, IntsAre vs ns → (h : i < ns.length) → ∃ t, vs[i]? = some (.int ns[i] t)
  | _, _, 0, .cons n t _, _ => ⟨t, rfl⟩
  | _, _, i + 1, .cons n t hr, h => intsAre_get (i := i) hr (by simpa using h)
  | _, _, _, .nil, h => absurd h (by simp)
theorem lstKeep {h₀ h : Heap} {L l : Addr} {m : Str → Option Value} {items : Array Value} (F : Fr h₀ L h m) (x : h₀.IsList l items) : h.IsList l items := let ⟨o, ho, r⟩ := x; ⟨o, F.keep l o ho, r⟩
theorem news_mv {h₀ h : Heap} {L : Addr} {a b c d e f : Addr × Obj} (N : News h₀ L h [a, b, c, d, e, f]) : News h₀ L h [a, f, b, c, d, e] := news_pick [[a], [b], [c], [d], [e], [f]] [0, 5, 1, 2, 3, 4] N
theorem emod_le_self {x p : Int} (h0 : 0 ≤ x) (hp : 0 < p) : x % p ≤ x := by
  have := Int.mul_ediv_add_emod x p
  have h := Int.mul_nonneg (Int.le_of_lt hp) (Int.ediv_nonneg h0 (Int.le_of_lt hp))
  omega
theorem foldl_rep (v : Value) : ∀ (k : Nat) (acc : Array Value), List.foldl (fun x1 x2 => x1 ++ x2) acc (List.replicate k #[v]) = acc ++ (List.replicate k v).toArray
  | 0, acc => by simp
  | k + 1, acc => by rw [List.replicate_succ, List.foldl_cons, foldl_rep v k]; apply Array.toList_inj.mp; simp [List.replicate_succ]
theorem mulRep {prog : Program} {w : World} {A : Around} {E : Value → Shared → Prop} {s : Shared} {h₀ : Heap} {L l : Addr} {m : Str → Option Value} {news : Led} {v : Value} {n0 k : Nat} {u : Tok} {Q : Value → Shared → Prop} (F : Fr h₀ L s.heap m) (N : News h₀ L s.heap news)
    (hm : (l, listOf #[v] n0) ∈ news) (hk : k ≤ 1000)
    (h : ∀ D h', Fr h₀ L h' m → News h₀ L h' ((D, listOf (List.replicate k v).toArray 0) :: news) → (∀ p ∈ news, p.1 < D) → L < D → Q (.ref D) { s with heap := h' }) :
    wpAny (model prog w) A (binaryOp .Mult (.ref l) (.int (k : Int) u)) Q E s := by
  refine mul_list F N (N _ hm).1 (by omega) (by omega) (by simp; omega) fun h' F' N' => ?_
  have e : List.foldl (fun x1 x2 => x1 ++ x2) #[] (List.replicate (if (#[v] : Array Value).isEmpty = true then 0 else (k : Int).toNat) #[v]) = (List.replicate k v).toArray := by
    rw [if_neg (by simp), Int.toNat_natCast, foldl_rep]; simp
  rw [e] at N'
  exact h _ h' F' N' (fun p hp => Heap.lt_size (N p hp).1) F.ns.lt
theorem ints_rep (i : Int) (t : Tok) : ∀ k, IntsAre (List.replicate k (.int i t)) (List.replicate k i)
  | 0 => .nil
  | k + 1 => .cons i t (ints_rep i t k)
theorem rmD {dp d D L : Nat} (h : dp + D ≤ L) (hd : d + 1 ≤ D) : dp + d < L := Nat.lt_of_lt_of_le (Nat.add_lt_add_left hd dp) h
theorem rmU {un u U L : Nat} (h : un + U ≤ L + 2) (hu : u + 3 ≤ U) : un + u < L := Nat.le_of_add_le_add_right (b := 2) (Nat.le_trans (Nat.add_le_add_left hu un) h)
theorem ne_s1 (a : Nat) : a ≠ a + 1 := Nat.ne_of_lt (Nat.lt_succ_self a)
theorem ne_s2 (a : Nat) : a ≠ a + 1 + 1 := Nat.ne_of_lt (Nat.lt_succ_of_lt (Nat.lt_succ_self a))
theorem ne_s1' (a : Nat) : a + 1 ≠ a := Nat.ne_of_gt (Nat.lt_succ_self a)
theorem ne_s2' (a : Nat) : a + 1 + 1 ≠ a := Nat.ne_of_gt (Nat.lt_succ_of_lt (Nat.lt_succ_self a))
theorem ne_ltS {a b : Nat} (h : a < b) : a ≠ b + 1 := Nat.ne_of_lt (Nat.lt_succ_of_lt h)
theorem ne_ltS2 {a b : Nat} (h : a < b) : a ≠ b + 1 + 1 := Nat.ne_of_lt (Nat.lt_succ_of_lt (Nat.lt_succ_of_lt h))
theorem ne_ltS3 {a b : Nat} (h : a < b) : a ≠ b + 1 + 1 + 1 := Nat.ne_of_lt (Nat.lt_succ_of_lt (Nat.lt_succ_of_lt (Nat.lt_succ_of_lt h)))
theorem ne_ltS' {a b : Nat} (h : a < b) : b + 1 ≠ a := Nat.ne_of_gt (Nat.lt_succ_of_lt h)
theorem ne_ltS2' {a b : Nat} (h : a < b) : b + 1 + 1 ≠ a := Nat.ne_of_gt (Nat.lt_succ_of_lt (Nat.lt_succ_of_lt h))
theorem ne_ltS3' {a b : Nat} (h : a < b) : b + 1 + 1 + 1 ≠ a := Nat.ne_of_gt (Nat.lt_succ_of_lt (Nat.lt_succ_of_lt (Nat.lt_succ_of_lt h)))
/-- a name of the frame: what the walk asks of the scope -/
noncomputable def localOk (cs : Scope) (x : Str) : Bool := cs.kind == .function && cs.names.lookup x == some .local && !(x == ("__debug__" : Str))
theorem localOk.parts {cs : Scope} {x : Str} (h : localOk cs x = true) : cs.kind = .function ∧ cs.names.lookup x = some .local ∧ (x == ("__debug__" : Str)) = false := by
  unfold localOk at h
  rw [Bool.and_eq_true, Bool.and_eq_true, Bool.not_eq_true'] at h
  exact ⟨eq_of_beq h.1.1, eq_of_beq h.1.2, h.2⟩
noncomputable abbrev put (x : Str) (v : Value) (m : Str → Option Value) : Str → Option Value := fun y => if y = x then some v else m y
section
variable {M : Model} {A : Around} {E : Value → Shared → Prop} {s : Shared} {h₀ : Heap} {L : Addr} {m : Str → Option Value} {env : Env} {x : Str} {v : Value}
theorem nameE {pos : Pos} {Q : Value → Shared → Prop} (F : Fr h₀ L s.heap m) (hv : some v = m x) (h : Q v s) (hL : env.locals = L) (ho : localOk env.scope x = true) : wpAny M A (eval (.Name x pos) env) Q E s := by
  subst hL
  obtain ⟨h1, h2, h3⟩ := localOk.parts ho
  exact wpAny_Name (wpAny_loadName_local h1 h2 F.ns hv.symm h) h3
theorem storeE {hx0 : Heap} {gn : Array GenState} {dr : Drawn} {tk : Nat} {os : OsState} {news : Led} {Q : Unit → Shared → Prop} (F : Fr h₀ L hx0 m) (N : News h₀ L hx0 news) (h : ∀ h', Fr h₀ L h' (put x v m) → News h₀ L h' news → Q () ⟨h', gn, dr, tk.succ, os⟩) (hL : env.locals = L) (ho : localOk env.scope x = true) : wpAny M A (storeName env x v) Q E ⟨hx0, gn, dr, tk, os⟩ := by
  subst hL
  obtain ⟨h1, h2, _⟩ := localOk.parts ho
  exact wpAny_storeName_local h2 F.ns (fun h' hn hs => h h' (F.set hn hs) (N.set hs)) (by rw [h1]; rfl)
end

local macro_rules | `(tactic| walk_at "bits") => `(tactic| first | assumption | exact intBits_sub_le (by walk_at "bits") (by walk_at "bits") | exact intBits_add_le (by walk_at "bits") (by walk_at "bits") | exact intBits_mul_le (by walk_at "bits") (by walk_at "bits") | exact Nat.le_refl _)
local macro_rules | `(tactic| walk_at "sub") => `(tactic| first | exact List.forall_mem_nil _ | exact List.forall_mem_cons.mpr ⟨by k_mem, by walk_at "sub"⟩)
local macro_rules | `(tactic| walk_at "dis") => `(tactic| first | exact List.forall_mem_nil _ | exact List.forall_mem_cons.mpr ⟨by k_all, by walk_at "dis"⟩)
local macro_rules | `(tactic| k_ne) => `(tactic| (refine neN ?_; (try dsimp only); first | assumption | exact Nat.ne_of_gt (by assumption) | exact Nat.ne_of_lt (by assumption) | exact Ne.symm (by assumption) | decide | exact ne_ltS (by assumption) | exact ne_ltS2 (by assumption) | exact ne_ltS3 (by assumption) | exact ne_ltS' (by assumption) | exact ne_ltS2' (by assumption) | exact ne_ltS3' (by assumption) | exact ne_s1 _ | exact ne_s2 _ | exact ne_s1' _ | exact ne_s2' _ | omega))
local macro_rules | `(tactic| walk_at "stop") => `(tactic| (k_here; refine stop ?_))
local macro_rules | `(tactic| walk_at "same") => `(tactic| (k_here; dsimp only))
local macro_rules | `(tactic| walk_at "binaryOp LShift int int") => `(tactic| (k_here; refine lshift_int (by omega) (sh_ok (by walk_at "bits") (by first | decide | omega)) ?_))
local macro_rules | `(tactic| walk_at "binaryOp Mult int int") => `(tactic| (k_here; refine mul_int ?_ (IntMulOk.of_le (by walk_at "bits") (by walk_at "bits") (by first | decide | omega))))
local macro_rules | `(tactic| k_lt $h:ident) => `(tactic| (replace $h := allLt_of $h; (try simp only [AllLt, and_true] at $h:ident); repeat (have _ := And.left $h; replace $h := And.right $h)))
local macro_rules | `(tactic| walk_at "newTuple") => `(tactic| (k_here; k_dflt (refine newTupleM (by k_asm) (by k_asm) ?_); intro _ _ _ _ l1 l2; (try k_lt l1); (try k_lt2 l2); (try k_sweep)))
local macro_rules | `(tactic| walk_at "newList") => `(tactic| (k_here; k_dflt (refine newListM (by k_asm) (by k_asm) ?_); intro _ _ _ _ l1 l2; (try k_lt l1); (try k_lt2 l2); (try k_sweep)))
local macro_rules | `(tactic| walk_at "call ref") => `(tactic| walk_at "stop")
local macro_rules | `(tactic| walk_at "exec While Compare cons nil") => `(tactic| walk_at "stop")
local macro_rules | `(tactic| walk_at "exec For Name Call cons nil") => `(tactic| walk_at "stop")
local macro_rules | `(tactic| walk_at "exec FunctionDef") => `(tactic| walk_at "stop")
local macro_rules | `(tactic| walk_at "exec For Tuple Call cons nil") => `(tactic| walk_at "stop")
local macro_rules | `(tactic| walk_at "exec For Tuple Name cons cons") => `(tactic| walk_at "stop")
local macro_rules | `(tactic| walk_at "exec For Tuple Name cons") => `(tactic| walk_at "stop")
local macro_rules | `(tactic| walk_at "eval Name") => `(tactic| (k_here; k_dflt (refine' nameE ?F ?v ?_ ?a ?b; (case F => k_asm); (case a => rfl); (case b => rfl); (case v => rfl))))
local macro_rules | `(tactic| walk_at "storeName") => `(tactic| (k_here; k_dflt (refine' storeE ?F ?N ?_ ?a ?b; (case F => k_asm); (case N => k_asm); (case a => rfl); (case b => rfl)); intro h' F' N'; (try k_sweep)))
local macro_rules | `(tactic| walk_at "eval Name") => `(tactic| walk_at "same")
local macro_rules | `(tactic| walk_at "eval BinOp") => `(tactic| walk_at "same")
local macro_rules | `(tactic| walk_at "eval Constant int") => `(tactic| (k_here; k_dflt (refine constE ?_)))
local macro_rules | `(tactic| walk_at "eval Constant int") => `(tactic| walk_at "same")
local macro_rules | `(tactic| walk_at "storeName") => `(tactic| walk_at "same")
local macro_rules | `(tactic| walk_at "spliced") => `(tactic| walk_at "same")
local macro_rules | `(tactic| walk_at "execs cons") => `(tactic| walk_at "same")
local macro_rules | `(tactic| walk_at "eval Call") => `(tactic| walk_at "same")

/-- a frame with some names told -/
noncomputable def ov (l : List (Str × Value)) (m : Str → Option Value) : Str → Option Value := fun y => match List.lookup y l with | some v => some v | none => m y
theorem frOv {h₀ h : Heap} {L : Addr} {m : Str → Option Value} {l : List (Str × Value)} (F : Fr h₀ L h m) (a : AllLk m l) : Fr h₀ L h (ov l m) := frC F fun y => by
  unfold ov
  by_cases hy : y ∈ l.map (·.1)
  · rw [a.lookup y hy]; cases List.lookup y l <;> rfl
  · rw [lookup_none_of hy]
/-- a for's turn: what it leaves -/
noncomputable def FStep (h₀ : Heap) (L : Addr) (s : Shared) (J : Nat → (Str → Option Value) → Led → Prop) (Q : Flow → Shared → Prop) (n : Nat) (f : Flow) (s₃ : Shared) : Prop :=
  match f with
  | .next | .cont => ∃ h' tk n' m₂ news₂, s₃ = { s with heap := h', toks := tk } ∧ Fr h₀ L h' m₂ ∧ News h₀ L h' news₂ ∧ n' < n ∧ J n' m₂ news₂
  | .brk => Q .next s₃
  | .ret v => Q (.ret v) s₃
section
variable {w : World} {A : Around} {Q : Flow → Shared → Prop} {s : Shared} {env : Env} {h₀ : Heap} {L : Addr} {target : PySem.Expr} {it : Value} {body orelse : List Stmt} {m : Str → Option Value} {news : Led} {n₀ : Nat} {X : Value → Shared → Prop}
theorem FStep.intro {J : Nat → (Str → Option Value) → Led → Prop} {n n' tk : Nat} {h' : Heap} {m₂ : Str → Option Value} {news₂ : Led} (F : Fr h₀ L h' m₂) (N : News h₀ L h' news₂) (hn : n' < n) (hJ : J n' m₂ news₂) :
    FStep h₀ L s J Q n .next { s with heap := h', toks := tk } := ⟨h', tk, n', m₂, news₂, rfl, F, N, hn, hJ⟩
theorem forM (J : Nat → (Str → Option Value) → Led → Prop) (F : Fr h₀ L s.heap m) (N : News h₀ L s.heap news) (hJ : J n₀ m news)
    (turn : ∀ n m₁ news₁ h₁ tk₁, Fr h₀ L h₁ m₁ → News h₀ L h₁ news₁ → J n m₁ news₁ → ∀ Q1 : Flow → Shared → Prop, (∀ f s', FStep h₀ L s J Q n f s' → Q1 f s') →
      wpAny (model PR w) A (pyNext it) (fun r s₁ => match r with
        | none => wpAny (model PR w) A (execs orelse env) Q (fun _ _ => False) s₁
        | some v => wpAny (model PR w) A (letOwnedTupleGo target it v) (fun _ s₁' => wpAny (model PR w) A (assign target env v) (fun _ s₂ => wpAny (model PR w) A (execs body env) Q1 (fun _ _ => False) s₂) (fun _ _ => False) s₁') (fun _ _ => False) s₁) (fun _ _ => False) { s with heap := h₁, toks := tk₁ }) :
    codeAny (model PR w) A (.forLoop target it body orelse env) (fun r s' => match r with | .ok f => Q f s' | .error e => X e s') s := by
  refine codeAny_forLoop_any (fun n s' => ∃ h₁ tk₁ m₁ news₁, s' = { s with heap := h₁, toks := tk₁ } ∧ Fr h₀ L h₁ m₁ ∧ News h₀ L h₁ news₁ ∧ J n m₁ news₁) ?_ n₀ ⟨s.heap, s.toks, m, news, rfl, F, N, hJ⟩
  rintro n s' ⟨h₁, tk₁, m₁, news₁, rfl, F₁, N₁, J₁⟩
  refine wpAny_mono (turn n m₁ news₁ h₁ tk₁ F₁ N₁ J₁ _ fun _ _ x => x) (fun r s₂ h₂ => ?_) fun _ _ x => x.elim
  cases r with
  | none => exact wpAny_mono h₂ (fun _ _ x => x) fun _ _ x => x.elim
  | some v =>
    refine wpAny_mono h₂ (fun _ s₂' h₂' => ?_) fun _ _ x => x.elim
    refine wpAny_mono h₂' (fun _ s₃ h₃ => ?_) fun _ _ x => x.elim
    refine wpAny_mono h₃ (fun f s₄ h₄ => ?_) fun _ _ x => x.elim
    cases f with
    | next => obtain ⟨h', tk, n', m₂, news₂, rfl, F₂, N₂, hn, J₂⟩ := h₄; exact ⟨n', hn, h', tk, m₂, news₂, rfl, F₂, N₂, J₂⟩
    | cont => obtain ⟨h', tk, n', m₂, news₂, rfl, F₂, N₂, hn, J₂⟩ := h₄; exact ⟨n', hn, h', tk, m₂, news₂, rfl, F₂, N₂, J₂⟩
    | brk => exact h₄
    | ret v => exact h₄
end
theorem letName {M : Model} {A : Around} {E : Value → Shared → Prop} {s : Shared} {x : Str} {pos : Pos} {it v : Value} {Q : Unit → Shared → Prop} (h : Q () s) : wpAny M A (letOwnedTupleGo (.Name x pos) it v) Q E s := wpAny_pure h
section
variable {prog : Program} {w : World} {A : Around} {E : Value → Shared → Prop} {s : Shared} {h₀ : Heap} {L : Addr} {m : Str → Option Value} {news news' : Led}
theorem revCall {l : Addr} {vs : List Value} {n0 : Nat} {Q : Value → Shared → Prop} (F : Fr h₀ L s.heap m) (N : News h₀ L s.heap news) (hm : (l, listOf vs.toArray n0) ∈ news)
    (h : ∀ I h', Fr h₀ L h' m → News h₀ L h' ((I, revObj l ((vs.length : Int) - 1)) :: news) → (∀ p ∈ news, p.1 < I) → L < I → Q (.ref I) { s with heap := h' }) :
    wpAny (model prog w) A (call (.type "reversed") [.ref l]) Q E s := by
  refine call_reversed_list (PySem.IsL.isList (n := n0) (N _ hm).1) ?_
  rw [List.size_toArray]
  exact h _ _ (F.push _) (N.push F _) (fun p hp => Heap.lt_size (N p hp).1) F.ns.lt
noncomputable def RevO (o : Obj) (l : Addr) (i : Int) : Prop := o.cls = .type "list_reverseiterator" ∧ o.data = .fields #[.ref l, rawInt i]
theorem revIter {I l : Addr} {i : Int} {o : Obj} {Q : Value → Shared → Prop} (N : News h₀ L s.heap news) (hm : (I, o) ∈ news) (ho : RevO o l i) (h : Q (.ref I) s) : wpAny (model prog w) A (pyIter (.ref I)) Q E s :=
  wpAny_pyIter_revIter ⟨_, (N _ hm).1, ho.1, ho.2⟩ h
theorem frBut {I : Addr} {o : Obj} {h' : Heap} (F : Fr h₀ L s.heap m) (hm : s.heap.get? I = some o ∧ I ≠ L ∧ h₀.get? I = none) (hs : Heap.SameBut I s.heap h') : Fr h₀ L h' m :=
  ⟨F.ns.sameBut hs (Ne.symm hm.2.1), fun b ob e => (hs.2 b (fun q => by rw [q, hm.2.2] at e; cases e)).trans (F.keep b ob e), F.above⟩
theorem revNext {I l : Addr} {i : Nat} {vs : List Value} {n0 : Nat} {x : Value} {o : Obj} {g : Obj → Led} {Q : Option Value → Shared → Prop} (F : Fr h₀ L s.heap m) (N : News h₀ L s.heap news) (hl : (l, listOf vs.toArray n0) ∈ news) (U : UpdF I o news g) (ho : RevO o l (i : Int)) (hx : vs[i]? = some x)
    (h : ∀ h' o', Fr h₀ L h' m → News h₀ L h' (g o') → RevO o' l ((i : Int) - 1) → Q (some x) { s with heap := h' }) : wpAny (model prog w) A (pyNext (.ref I)) Q E s := by
  obtain ⟨own, rest, rfl, hg, h1, h2⟩ := U.split
  have z := N (I, o) (List.mem_append.mpr (.inr (.head _)))
  refine wpAny_pyNext_rev_item ⟨_, z.1, ho.1, ho.2⟩ (PySem.IsL.isList (n := n0) (N _ hl).1) (by simpa using hx) fun h' hit hs => ?_
  obtain ⟨o', ho', hc, hd⟩ := hit
  exact h h' o' (frBut F z hs) (hg o' ▸ N.setAt h1 h2 hs ho') ⟨hc, hd⟩
/-- at the end: the iterator's object is forgotten -/
theorem revDone {I l : Addr} {o : Obj} {own rest : Led} {Q : Option Value → Shared → Prop} (hh : A.handled = none) (F : Fr h₀ L s.heap m) (N : News h₀ L s.heap (own ++ (I, o) :: rest)) (h1 : ∀ p ∈ own, p.1 ≠ I) (h2 : ∀ p ∈ rest, p.1 ≠ I) (ho : RevO o l (-1))
    (h : ∀ h', Fr h₀ L h' m → News h₀ L h' (own ++ rest) → Q none { s with heap := h' }) : wpAny (model prog w) A (pyNext (.ref I)) Q E s := by
  have z := N (I, o) (List.mem_append.mpr (.inr (.head _)))
  refine wpAny_pyNext_rev_end hh ⟨_, z.1, ho.1, ho.2⟩ fun h' hx => h h' ⟨F.ns.extBut hx (Ne.symm z.2.1), fun b ob e => hx b ob (fun q => by rw [q, z.2.2] at e; cases e) (F.keep b ob e), F.above⟩ fun p hp => ?_
  rcases List.mem_append.mp hp with hp | hp
  · have P := N p (List.mem_append_left _ hp); exact ⟨hx _ _ (h1 p hp) P.1, P.2⟩
  · have P := N p (List.mem_append_right _ (.tail _ hp)); exact ⟨hx _ _ (h2 p hp) P.1, P.2⟩
end
theorem leN {a b : Nat} (h : a ≤ b) : a ≤ b := h
theorem orN {a b : Nat} {c d : Nat} (h : a = b ∨ c ≤ d) : a = b ∨ c ≤ d := h
theorem eqN {a b : Nat} (h : a = b) : a = b := h
theorem ints_app : ∀ {vs : List Value} {ns : List Int} {ws : List Value} {ks : List Int}, IntsAre vs ns → IntsAre ws ks → IntsAre (vs ++ ws) (ns ++ ks)
  | _, _, _, _, .nil, h => h
  | _, _, _, _, .cons n t hr, h => .cons n t (ints_app hr h)
theorem ints_rev : ∀ {vs : List Value} {ns : List Int}, IntsAre vs ns → IntsAre vs.reverse ns.reverse
  | _, _, .nil => .nil
  | _, _, .cons n t hr => by rw [List.reverse_cons, List.reverse_cons]; exact ints_app (ints_rev hr) (.cons n t .nil)
theorem updF_app {d : Addr} {o : Obj} : ∀ {pre : Led}, (∀ p ∈ pre, p.1 ≠ d) → UpdF d o (pre ++ [(d, o)]) (fun o' => pre ++ [(d, o')])
  | [], _ => .head (fun _ h => nomatch h)
  | q :: r, h => .tail (h q (.head _)) (updF_app fun p hp => h p (.tail _ hp))
/-- a def within a def, whether its code was made before or not -/
theorem nest_any {M : Model} {A : Around} {E : Value → Shared → Prop} {s : Shared} {h₀ : Heap} {L a c P : Addr} {m mg mb : Str → Option Value} {cn : Str} {cs : Scope} {ccd : Value} {cl : List (Str × Addr)} {pre : Led} {o oc₀ : Obj} {c₀ : Addr}
    {p : Program} {loose : List Str} {mean : ExcName → Option Value} {name qual : Str} {params : Arguments} {body : List Stmt} {scope : Scope} {pos : Pos} {firstLine : Nat} {clos : List (Str × Addr)} {Q : Value → Shared → Prop}
    (F : Fr h₀ L s.heap m) (N : News h₀ L s.heap (pre ++ [(P, o), (c₀, oc₀)])) (hpre : ∀ p ∈ pre, p.1 ≠ P) (T : Top p loose mean mg mb h₀) (C : CodeHd h₀ c P) (hcd : ccd = .ref c) (hT : TOK P pos.line pos.col qual o c₀ oc₀)
    (hcl : closureFor scope (envX cn cs L a ccd cl) = pure clos)
    (h : ∀ f c' oc' vs t ctv doc h' tk, Fr h₀ L h' m →
      News h₀ L h' ((f, fnMade name qual params body scope clos doc ((mg "__name__").getD .none) c' ctv) :: (pre ++ [(P, tabObj #[rawInt pos.line, rawInt pos.col, .ref c']), (c', oc')])) →
      oc'.data = .fields vs → vs[1]? = some (.str qual t) → c' ≠ P → (c' = c₀ ∨ ∀ q ∈ pre, q.1 < c') → (∀ q ∈ pre, q.1 < f) → P < f → c' < f → Q (.ref f) { s with heap := h', toks := tk }) :
    wpAny M A (makeFunction name qual params (.stmts body) scope (envX cn cs L a ccd cl) [] [] [] pos firstLine) Q E s := by
  rcases hT with ⟨rfl, rfl, rfl⟩ | ⟨rfl, hne, vs, t, e1, e2⟩
  · have N' : News h₀ L s.heap (pre ++ [(c₀, tabObj #[])]) := news_sub N fun p hp => by
      rcases List.mem_append.mp hp with hp | hp
      · exact List.mem_append_left _ hp
      · exact List.mem_append_right _ (by rw [List.mem_singleton.mp hp]; exact .head _)
    refine nest_K F N' T C hcd (updF_app hpre) trivial rfl hcl ?_
    intro f c' oc vs t ctv doc h' tk F2 N2 d1 d2 l1 l2
    refine h f c' oc vs t ctv doc h' tk F2 (news_sub N2 ?_) d1 d2 (Nat.ne_of_gt (l1 _ (List.mem_append_right _ (.head _)))) (.inr fun q hq => l1 q (List.mem_append_left _ hq)) (fun q hq => Nat.lt_trans (l1 q (List.mem_append_left _ hq)) l2) (Nat.lt_trans (l1 _ (List.mem_append_right _ (.head _))) l2) l2
    intro q hq
    rcases List.mem_cons.mp hq with rfl | hq
    · exact .head _
    · rcases List.mem_append.mp hq with hq | hq
      · exact .tail _ (.tail _ (List.mem_append_left _ hq))
      · rcases List.mem_cons.mp hq with rfl | hq
        · exact .tail _ (.tail _ (List.mem_append_right _ (.head _)))
        · rw [List.mem_singleton.mp hq]; exact .tail _ (.head _)
  · refine nestHit_K (c' := c₀) F N T C hcd (List.mem_append_right _ (.head _)) trivial (by simp [codeAmong, rawInt]) hcl ?_
    intro f ctv doc h' tk F2 N2 l1
    exact h f c₀ oc₀ vs t ctv doc h' tk F2 N2 e1 e2 hne (.inl rfl) (fun q hq => l1 q (List.mem_append_left _ hq)) (l1 _ (List.mem_append_right _ (.head _))) (l1 _ (List.mem_append_right _ (.tail _ (.head _))))
theorem mid_ex {x r : Nat} (h : x < r) (hne : x + 1 ≠ r) : ∃ k, 1 ≤ k ∧ x + k < r ∧ (x + r) / 2 = x + k := by
  obtain ⟨e, rfl⟩ := Nat.exists_eq_add_of_lt h
  cases e with
  | zero => exact absurd rfl hne
  | succ e =>
    refine ⟨(e + 2) / 2, Nat.div_pos (Nat.le_add_left 2 e) (by decide), Nat.add_lt_add_left (Nat.div_lt_self (Nat.succ_pos _) (by decide)) x, ?_⟩
    rw [show x + (x + (e + 1) + 1) = e + 2 + 2 * x from (Nat.add_assoc x x (e + 2)).symm.trans (by rw [Nat.two_mul, Nat.add_comm]), Nat.add_mul_div_left _ _ (by decide), Nat.add_comm]
theorem mid_div {x r k : Nat} (h : (x + r) / 2 = x + k) : ((x : Int) + (r : Int)).fdiv (2 ^ (1 : Int).toNat) = ((x + k : Nat) : Int) := by
  rw [Int.fdiv_eq_ediv_of_nonneg _ (by decide)]
  exact congrArg Int.ofNat h
theorem mid_mul {x k n : Nat} : (((x + k : Nat) : Int) - (x : Int)) * (n : Int) = ((k * n : Nat) : Int) := by
  rw [show ((x + k : Nat) : Int) - (x : Int) = (k : Int) from (congrArg (· - (x : Int)) (Int.add_comm (x : Int) (k : Int))).trans (Int.add_sub_cancel (k : Int) (x : Int))]; rfl
theorem mid_a {x r k m : Nat} (h : x + k < r) (h3 : r - x ≤ m + 1) : x + k - x ≤ m := by
  rw [Nat.add_sub_cancel_left]
  exact Nat.le_of_lt_succ (Nat.lt_of_lt_of_le (Nat.lt_sub_of_add_lt (by rw [Nat.add_comm]; exact h)) h3)
theorem mid_b {x r k m : Nat} (_h : x + k < r) (h1 : 1 ≤ k) (h3 : r - x ≤ m + 1) : r - (x + k) ≤ m := by
  rw [← Nat.sub_sub]
  exact Nat.le_trans (Nat.sub_le_sub_right h3 k) (Nat.sub_le_sub_left h1 (m + 1))
theorem sub_up {x k r : Nat} (h : x + k < r) : r - (x + k) + k = r - x := by rw [Nat.sub_add_eq, Nat.sub_add_cancel (Nat.le_sub_of_add_le' (Nat.le_of_lt h))]
theorem cast_ne {x r : Nat} (h : (x : Int) + 1 ≠ (r : Int)) : x + 1 ≠ r := fun e => h (congrArg Int.ofNat e)
theorem cast_eq {x r : Nat} (h : (x : Int) + 1 = (r : Int)) : r = x + 1 := (Int.ofNat.inj h).symm
theorem k64 {x r k : Nat} (h : x + k < r) (h2 : r ≤ 64) : k ≤ 64 := Nat.le_trans (Nat.le_add_left k x) (Nat.le_of_lt (Nat.lt_of_lt_of_le h h2))
theorem bits64 {x : Nat} (h : x ≤ 1000000) : intBits (x : Int) ≤ 64 := bits_of_lt (n := 20) (Int.natCast_nonneg x) (Int.lt_of_le_of_lt (Int.ofNat_le.mpr h) (by decide)) (by decide)
theorem bits64s {x k : Nat} (h : k ≤ 64) : intBits (((x + k : Nat) : Int) - (x : Int)) ≤ 64 := by
  rw [show ((x + k : Nat) : Int) - (x : Int) = (k : Int) from (congrArg (· - (x : Int)) (Int.add_comm (x : Int) (k : Int))).trans (Int.add_sub_cancel (k : Int) (x : Int))]
  exact bits_of_lt (n := 7) (Int.natCast_nonneg k) (Int.lt_of_le_of_lt (Int.ofNat_le.mpr h) (by decide)) (by decide)
theorem shift_le {k n : Nat} (h1 : k ≤ 64) (h2 : n ≤ 30000) : k * n ≤ 1920000 := Nat.mul_le_mul h1 h2
theorem sh_room {b s : Nat} (h : s ≤ 1920000) (hb : b ≤ 3000000) : (b : Int) + (s : Int) ≤ 134217728 := Int.ofNat_le.mpr (Nat.le_trans (Nat.add_le_add hb h) (show 3000000 + 1920000 ≤ 134217728 by decide))
theorem nn (x : Nat) : 0 ≤ (x : Int) := Int.natCast_nonneg x
theorem joinM {α : Type} {M : Model} {A : Around} {t : Sem α} {E : Value → Shared → Prop} {s : Shared} {Q : α → Shared → Prop} (R : α → Shared → Prop) (h1 : ∀ R1 : α → Shared → Prop, (∀ f s', R f s' → R1 f s') → wpAny M A t R1 E s) (h2 : ∀ f s', R f s' → Q f s') : wpAny M A t Q E s := wpAny_mono (h1 R fun _ _ x => x) h2 fun _ _ x => x
/-- a joining place: the frame by its names -/
noncomputable def Mid (g : Heap) (L' : Addr) (s : Shared) (P : (Str → Option Value) → Prop) (f : Flow) (s' : Shared) : Prop := f = .next ∧ ∃ h tk m, s' = { s with heap := h, toks := tk } ∧ Fr g L' h m ∧ P m
/-- a joining place, told by what its ends must show -/
theorem joinC {α : Type} {M : Model} {A : Around} {t : Sem α} {E : Value → Shared → Prop} {s : Shared} {Q : α → Shared → Prop} (P : (α → Shared → Prop) → Prop) (h1 : ∀ R1 : α → Shared → Prop, P R1 → wpAny M A t R1 E s) (h2 : P Q) : wpAny M A t Q E s := h1 Q h2
theorem cutF {h₀ h : Heap} {L : Addr} {m : Str → Option Value} {l : List (Str × Value)} {C : Prop} (F : Fr h₀ L h m) (a : AllLk m l) (k : ∀ m', Fr h₀ L h (ov l m') → C) : C := k m (frOv F a)
theorem allLk {m : Str → Option Value} : ∀ {l : List (Str × Value)}, (l.map fun kv => some kv.2) = (l.map fun kv => m kv.1) → AllLk m l
  | [], _ => trivial
  | _ :: _, e => ⟨(List.cons.inj e).1.symm, allLk (List.cons.inj e).2⟩
/-- a frame by a written list of its names -/
theorem frM {h₀ h : Heap} {L : Addr} {m : Str → Option Value} {l : List (Str × Value)} (F : Fr h₀ L h m) (e : (l.map fun kv => some kv.2) = (l.map fun kv => m kv.1)) : Fr h₀ L h (ov l m) := frOv F (allLk e)
theorem cutM {h₀ h : Heap} {L : Addr} {m : Str → Option Value} {l : List (Str × Value)} {C : Prop} (F : Fr h₀ L h m) (e : (l.map fun kv => some kv.2) = (l.map fun kv => m kv.1)) (k : ∀ m', Fr h₀ L h (ov l m') → C) : C := k m (frM F e)

inductive VI where
  | i (n : Int)
  | o (x : Value)
noncomputable def VI.is : VI → Option Value → Prop
  | .i n, y => ∃ t, y = some (.int n t)
  | .o x, y => y = some x
noncomputable abbrev VL := List (Str × VI)
/-- what a frame holds of the names told -/
noncomputable def AllV (m : Str → Option Value) : VL → Prop
  | [] => True
  | kv :: r => kv.2.is (m kv.1) ∧ AllV m r
theorem AllV.get {m : Str → Option Value} {x : Str} {c : VI} : ∀ {l : VL}, AllV m l → l.lookup x = some c → c.is (m x)
  | [], _, h => nomatch h
  | (k, c') :: r, ⟨a, b⟩, h => by
    rw [List.lookup_cons] at h
    cases e : x == k with
    | true => rw [e] at h; cases h; rw [eq_of_beq e]; exact a
    | false => rw [e] at h; exact b.get h
noncomputable def putV (x : Str) (v : Int) (l : VL) : VL := (x, .i v) :: l.filter fun kv => !(kv.1 == x)
theorem AllV.put {m : Str → Option Value} {x : Str} {v : Int} {t : Tok} {l : VL} (h : AllV m l) : AllV (fun y => if y = x then some (.int v t) else m y) (putV x v l) := by
  refine ⟨⟨t, if_pos rfl⟩, ?_⟩
  induction l with
  | nil => trivial
  | cons kv r ih =>
    rw [List.filter_cons]
    split
    · rename_i q
      refine ⟨?_, ih h.2⟩
      show kv.2.is (if kv.1 = x then _ else _)
      rw [if_neg (by simpa using q)]
      exact h.1
    · exact ih h.2
section
variable {sc : Scope} {l l' l'' : VL}
/-- an expression of ints -/
noncomputable def EvI (sc : Scope) (l : VL) (e : PySem.Expr) (v : Int) : Prop := ∀ (w : World) (A : Around) (env : Env) (E : Value → Shared → Prop) (s : Shared) (m : Str → Option Value) (Q : Value → Shared → Prop),
  env.scope = sc → s.heap.Ns env.locals m → AllV m l → (∀ t tk, Q (.int v t) { s with toks := tk }) → wpAny (model PR w) A (eval e env) Q E s
noncomputable def OpTo (op : Operator) (a b v : Int) : Prop := ∀ (w : World) (A : Around) (E : Value → Shared → Prop) (s : Shared) (t u : Tok) (Q : Value → Shared → Prop), Q (.int v s.toks) { s with toks := s.toks + 1 } → wpAny (model PR w) A (binaryOp op (.int a t) (.int b u)) Q E s
noncomputable def IopTo (op : Operator) (a b v : Int) : Prop := ∀ (w : World) (A : Around) (E : Value → Shared → Prop) (s : Shared) (t u : Tok) (Q : Value → Shared → Prop), Q (.int v s.toks) { s with toks := s.toks + 1 } → wpAny (model PR w) A (inplaceOp op (.int a t) (.int b u)) Q E s
noncomputable def CmpTo (op : CmpOp) (a b : Int) (P : Prop) : Prop := ∀ (w : World) (A : Around) (E : Value → Shared → Prop) (s : Shared) (t u : Tok) (Q : Value → Shared → Prop), (∀ c : Bool, (c = true → P) → (c = false → ¬ P) → Q (.bool c) s) → wpAny (model PR w) A (compareOp op (.int a t) (.int b u)) Q E s
theorem EvI.const {i k pos} : EvI sc l (.Constant (.int i) k pos) i := fun w A env E s m Q hs hn hl h => wpAny_Constant_int (h _ _)
theorem EvI.name {x pos} {v : Int} (hx : l.lookup x = some (.i v)) (hk : sc.names.lookup x = some .local) (hf : sc.kind = .function) (hd : (x == ("__debug__" : Str)) = false) : EvI sc l (.Name x pos) v :=
  fun w A env E s m Q hs hn hl h => by
    subst hs
    obtain ⟨t, e⟩ := hl.get hx
    exact wpAny_Name (wpAny_loadName_local hf hk hn e (h t s.toks)) hd
theorem EvI.bin {a b : PySem.Expr} {op pos} {x y v : Int} (ha : EvI sc l a x) (hb : EvI sc l b y) (ho : OpTo op x y v) : EvI sc l (.BinOp a op b pos) v := fun w A env E s m Q hs hn hl h =>
  wpAny_BinOp (ha w A env E s m _ hs hn hl fun t tk => hb w A env E _ m _ hs hn hl fun u tk' => ho w A E _ t u Q (h _ _))
/-- a test -/
noncomputable def TsI (sc : Scope) (l : VL) (e : PySem.Expr) (P : Prop) : Prop := ∀ (w : World) (A : Around) (env : Env) (E : Value → Shared → Prop) (s : Shared) (m : Str → Option Value) (Q : Bool → Shared → Prop) (whole : Sem Value),
  env.scope = sc → s.heap.Ns env.locals m → AllV m l → (∀ b tk, (b = true → P) → (b = false → ¬ P) → Q b { s with toks := tk }) → wpAny (model PR w) A (isTrue e env whole) Q E s
theorem TsI.cmp {a b : PySem.Expr} {op pos} {x y : Int} {P : Prop} (ha : EvI sc l a x) (hb : EvI sc l b y) (ho : CmpTo op x y P) (hm : behindInMarks op b = false) : TsI sc l (.Compare a [op] [b] pos) P := fun w A env E s m Q whole hs hn hl h =>
  wpAny_isTrue_Compare1 (ha w A env E s m _ hs hn hl fun t tk => hb w A env E _ m _ hs hn hl fun u tk' => ho w A E _ t u _ fun c h1 h2 => wpAny_truthy_bool (h c _ h1 h2)) hm
theorem TsI.or {a b : PySem.Expr} {pos} {P P' : Prop} (ha : TsI sc l a P) (hb : TsI sc l b P') : TsI sc l (.BoolOp .Or [a, b] pos) (P ∨ P') := fun w A env E s m Q whole hs hn hl h =>
  isTrue_or (ha w A env E s m _ _ hs hn hl fun c tk h1 h2 => by
    cases c with
    | true => exact h true tk (fun _ => .inl (h1 rfl)) fun q => nomatch q
    | false =>
      refine isTrue_or (hb w A env E _ m _ _ hs hn hl fun c tk h1' h2' => ?_)
      cases c with
      | true => exact h true tk (fun _ => .inr (h1' rfl)) fun q => nomatch q
      | false => exact isTrue_or_nil (h false tk (fun q => nomatch q) fun _ q => q.elim (h2 rfl) (h2' rfl)))
theorem TsI.and {a b : PySem.Expr} {pos} {P P' : Prop} (ha : TsI sc l a P) (hb : TsI sc l b P') : TsI sc l (.BoolOp .And [a, b] pos) (P ∧ P') := fun w A env E s m Q whole hs hn hl h =>
  isTrue_and (ha w A env E s m _ _ hs hn hl fun c tk h1 h2 => by
    cases c with
    | false => exact h false tk (fun q => nomatch q) fun _ q => h2 rfl q.1
    | true =>
      refine isTrue_and (hb w A env E _ m _ _ hs hn hl fun c tk h1' h2' => ?_)
      cases c with
      | false => exact h false tk (fun q => nomatch q) fun _ q => h2' rfl q.2
      | true => exact isTrue_and_nil (h true tk (fun _ => ⟨h1 rfl, h1' rfl⟩) fun q => nomatch q))
theorem CmpTo.lt {a b : Int} : CmpTo .Lt a b (a < b) := fun w A E s t u Q h => lt_int (h _ of_decide_eq_true of_decide_eq_false)
theorem CmpTo.gt {a b : Int} : CmpTo .Gt a b (b < a) := fun w A E s t u Q h => gt_int (h _ of_decide_eq_true of_decide_eq_false)
theorem CmpTo.eq {a b : Int} : CmpTo .Eq a b (a = b) := fun w A E s t u Q h => eq_int (h _ eq_of_beq fun q e => by rw [e, beq_self_eq_true] at q; cases q)
/-- a statement of ints -/
noncomputable def StI (sc : Scope) (l : VL) (st : Stmt) (l' : VL) : Prop := ∀ (w : World) (A : Around) (env : Env) (E : Value → Shared → Prop) (s : Shared) (h₀ : Heap) (m : Str → Option Value) (news : Led) (Q : Flow → Shared → Prop),
  env.scope = sc → Fr h₀ env.locals s.heap m → News h₀ env.locals s.heap news → AllV m l → (∀ h tk m', Fr h₀ env.locals h m' → News h₀ env.locals h news → AllV m' l' → Q .next { s with heap := h, toks := tk }) → wpAny (model PR w) A (exec st env) Q E s
noncomputable def BlI (sc : Scope) (l : VL) (sts : List Stmt) (l' : VL) : Prop := ∀ (w : World) (A : Around) (env : Env) (E : Value → Shared → Prop) (s : Shared) (h₀ : Heap) (m : Str → Option Value) (news : Led) (Q : Flow → Shared → Prop) (rest : List Stmt),
  env.scope = sc → Fr h₀ env.locals s.heap m → News h₀ env.locals s.heap news → AllV m l → (∀ h tk m', Fr h₀ env.locals h m' → News h₀ env.locals h news → AllV m' l' → wpAny (model PR w) A (execs rest env) Q E { s with heap := h, toks := tk }) → wpAny (model PR w) A (execs (sts ++ rest) env) Q E s
theorem BlI.nil : BlI sc l [] l := fun w A env E s h₀ m news Q rest hs F N hl h => h _ _ m F N hl
theorem BlI.cons {st : Stmt} {sts : List Stmt} (h1 : StI sc l st l') (h2 : BlI sc l' sts l'') : BlI sc l (st :: sts) l'' := fun w A env E s h₀ m news Q rest hs F N hl h =>
  wpAny_execs_cons (h1 w A env E s h₀ m news _ hs F N hl fun h' tk m' F' N' hl' => h2 w A env E _ h₀ m' news Q rest hs F' N' hl' h)
theorem storeI {w : World} {A : Around} {env : Env} {E : Value → Shared → Prop} {s : Shared} {h₀ : Heap} {m : Str → Option Value} {news : Led} {Q : Unit → Shared → Prop} {x : Str} {v : Int} {t : Tok} (hs : env.scope = sc) (hk : sc.names.lookup x = some .local) (hf : sc.kind = .function) (F : Fr h₀ env.locals s.heap m) (N : News h₀ env.locals s.heap news) (hl : AllV m l)
    (h : ∀ h' tk m', Fr h₀ env.locals h' m' → News h₀ env.locals h' news → AllV m' (putV x v l) → Q () { s with heap := h', toks := tk }) : wpAny (model PR w) A (storeName env x (.int v t)) Q E s := by
  subst hs
  exact wpAny_storeName_local hk F.ns (fun h' hn hs => h _ _ _ (F.set hn hs) (N.set hs) hl.put) (by rw [hf]; rfl)
theorem StI.assign {x pos' pos} {e : PySem.Expr} {v : Int} (he : EvI sc l e v) (hk : sc.names.lookup x = some .local) (hf : sc.kind = .function) (hl' : putV x v l = l') (hw : ∀ env, swapsWith e (some (.Name x pos')) pos.line env = pure false) : StI sc l (.Assign [.Name x pos'] e pos) l' :=
  fun w A env E s h₀ m news Q hs F N hl h => by
    subst hl'
    exact wpAny_Assign_Name (he w A env E s m _ hs F.ns hl fun t tk => storeI hs hk hf F N hl fun h' tk' m' F' N' hl' => h _ _ _ F' N' hl') (hw env)
theorem StI.aug {x pos' pos op} {e : PySem.Expr} {a b v : Int} (he : EvI sc l e b) (hx : l.lookup x = some (.i a)) (ho : IopTo op a b v) (hk : sc.names.lookup x = some .local) (hf : sc.kind = .function) (hl' : putV x v l = l') : StI sc l (.AugAssign (.Name x pos') op e pos) l' :=
  fun w A env E s h₀ m news Q hs F N hl h => by
    subst hl' hs
    obtain ⟨t, e⟩ := hl.get hx
    exact wpAny_AugAssign_Name (wpAny_loadName_local hf hk F.ns e (he w A env E _ m _ rfl F.ns hl fun u tk => ho w A E _ t u _ (storeI rfl hk hf F N hl fun h' tk' m' F' N' hl' => h _ _ _ F' N' hl')))
theorem StI.ite {e : PySem.Expr} {b o : List Stmt} {pos} {P : Prop} (ht : TsI sc l e P) (h1 : P → BlI sc l b l') (h2 : ¬ P → BlI sc l o l') : StI sc l (.If e b o pos) l' := fun w A env E s h₀ m news Q hs F N hl h =>
  wpAny_If (ht w A env E s m _ _ hs F.ns hl fun c tk h1' h2' => by
    cases c with
    | true => have := h1 (h1' rfl) w A env E { s with toks := tk } h₀ m news Q [] hs F N hl fun h' tk m' F' N' hl' => wpAny_execs_nil (h h' tk m' F' N' hl'); rwa [List.append_nil] at this
    | false => have := h2 (h2' rfl) w A env E { s with toks := tk } h₀ m news Q [] hs F N hl fun h' tk m' F' N' hl' => wpAny_execs_nil (h h' tk m' F' N' hl'); rwa [List.append_nil] at this)
/-- a block at a walk -/
theorem blk {w : World} {A : Around} {env : Env} {E : Value → Shared → Prop} {s : Shared} {h₀ : Heap} {L : Addr} {m : Str → Option Value} {news : Led} {Q : Flow → Shared → Prop} {all : List Stmt} (n : Nat) (l l' : VL) (F : Fr h₀ L s.heap m) (N : News h₀ L s.heap news) (hl : AllV m l) (hL : env.locals = L)
    (B : BlI env.scope l (all.take n) l') (h : ∀ h' tk m', Fr h₀ L h' m' → News h₀ L h' news → AllV m' l' → wpAny (model PR w) A (execs (all.drop n) env) Q E { s with heap := h', toks := tk }) : wpAny (model PR w) A (execs all env) Q E s := by
  subst hL
  have := B w A env E s h₀ m news Q (all.drop n) rfl F N hl h
  rwa [List.take_append_drop] at this
end
section
variable {a b v : Int}
theorem OpTo.add (e : a + b = v) : OpTo .Add a b v := fun w A E s t u Q h => add_to e h
theorem OpTo.sub (e : a - b = v) : OpTo .Sub a b v := fun w A E s t u Q h => sub_to e h
theorem OpTo.mul {m k : Nat} (hb : intBits a ≤ m) (hc : intBits b ≤ k) (h2 : m + k ≤ 134217728) (e : a * b = v) : OpTo .Mult a b v := fun w A E s t u Q h => mul_to hb hc h2 e h
theorem OpTo.mod (hb : b ≠ 0) (e : a.fmod b = v) : OpTo .Mod a b v := fun w A E s t u Q h => mod_to hb e h
theorem OpTo.fdiv (hb : b ≠ 0) (hp : Builtin.divisionGoesByPylong a b = false) (e : a.fdiv b = v) : OpTo .FloorDiv a b v := fun w A E s t u Q h => floordiv_to hb hp e h
theorem OpTo.pow {m : Nat} (hn : 0 ≤ b) (hb : intBits a ≤ m) (h2 : m * b.toNat ≤ 134217728) (e : a ^ b.toNat = v) : OpTo .Pow a b v := fun w A E s t u Q h => pow_int hn (by
    have h3 := Int.ofNat_le.mpr (Nat.le_trans (Nat.mul_le_mul_right _ hb) h2)
    rw [Int.natCast_mul, Int.toNat_of_nonneg hn] at h3
    exact h3) (by rw [e]; exact h)
theorem OpTo.rsh (hn : 0 ≤ b) (e : a.fdiv (2 ^ b.toNat) = v) : OpTo .RShift a b v := fun w A E s t u Q h => rshift_to hn e h
theorem OpTo.lsh {m : Nat} (hn : 0 ≤ b) (hb : intBits a ≤ m) (h2 : (m : Int) + b ≤ 134217728) (e : a * 2 ^ b.toNat = v) : OpTo .LShift a b v := fun w A E s t u Q h => lshift_to hn hb h2 e h
theorem OpTo.and (e : Builtin.bitAnd a b = v) : OpTo .BitAnd a b v := fun w A E s t u Q h => and_to e h
theorem OpTo.or (e : Builtin.bitOr a b = v) : OpTo .BitOr a b v := fun w A E s t u Q h => or_to e h
theorem OpTo.xor (e : Builtin.bitXor a b = v) : OpTo .BitXor a b v := fun w A E s t u Q h => xor_to e h
theorem IopTo.add (e : a + b = v) : IopTo .Add a b v := fun w A E s t u Q h => iadd_to e h
theorem IopTo.sub (e : a - b = v) : IopTo .Sub a b v := fun w A E s t u Q h => isub_int (e ▸ h)
theorem IopTo.mul {m k : Nat} (hb : intBits a ≤ m) (hc : intBits b ≤ k) (h2 : m + k ≤ 134217728) (e : a * b = v) : IopTo .Mult a b v := fun w A E s t u Q h => imul_to hb hc h2 e h
theorem IopTo.fdiv (hb : b ≠ 0) (hp : Builtin.divisionGoesByPylong a b = false) (e : a.fdiv b = v) : IopTo .FloorDiv a b v := fun w A E s t u Q h => ifloordiv_to hb hp e h
theorem IopTo.rsh (hn : 0 ≤ b) (e : a.fdiv (2 ^ b.toNat) = v) : IopTo .RShift a b v := fun w A E s t u Q h => irshift_to hn e h
theorem IopTo.lsh {m : Nat} (hn : 0 ≤ b) (hb : intBits a ≤ m) (h2 : (m : Int) + b ≤ 134217728) (e : a * 2 ^ b.toNat = v) : IopTo .LShift a b v := fun w A E s t u Q h => ilshift_to hn hb h2 e h
end
/-- an expression of ints over a frame as it stands -/
noncomputable def EvM (sc : Scope) (m : Str → Option Value) (e : PySem.Expr) (v : Int) : Prop := ∀ (w : World) (A : Around) (env : Env) (E : Value → Shared → Prop) (s : Shared) (Q : Value → Shared → Prop),
  env.scope = sc → s.heap.Ns env.locals m → (∀ t tk, Q (.int v t) { s with toks := tk }) → wpAny (model PR w) A (eval e env) Q E s
section
variable {sc : Scope} {m : Str → Option Value}
theorem EvM.const {i k pos} : EvM sc m (.Constant (.int i) k pos) i := fun w A env E s Q hs hn h => wpAny_Constant_int (h _ _)
theorem EvM.name {x pos} {v : Int} {t : Tok} (hv : some (.int v t) = m x) (ho : localOk sc x = true) : EvM sc m (.Name x pos) v := fun w A env E s Q hs hn h => by
  subst hs
  obtain ⟨h1, h2, h3⟩ := localOk.parts ho
  exact wpAny_Name (wpAny_loadName_local h1 h2 hn hv.symm (h t s.toks)) h3
theorem EvM.bin {a b : PySem.Expr} {op pos} {x y v : Int} (ha : EvM sc m a x) (hb : EvM sc m b y) (ho : OpTo op x y v) : EvM sc m (.BinOp a op b pos) v := fun w A env E s Q hs hn h =>
  wpAny_BinOp (ha w A env E s _ hs hn fun t tk => hb w A env E _ _ hs hn fun u tk' => ho w A E _ t u Q (h _ _))
theorem evW {w : World} {A : Around} {env : Env} {E : Value → Shared → Prop} {h₀ hx0 : Heap} {gn : Array GenState} {dr : Drawn} {tk : Nat} {os : OsState} {L : Addr} {e : PySem.Expr} {v : Int} {Q : Value → Shared → Prop} (F : Fr h₀ L hx0 m) (ev : EvM env.scope m e v) (hL : env.locals = L)
    (h : ∀ t tk, Q (.int v t) ⟨hx0, gn, dr, tk, os⟩) : wpAny (model PR w) A (eval e env) Q E ⟨hx0, gn, dr, tk, os⟩ := by
  subst hL
  exact ev w A env E _ Q rfl F.ns h
end

local macro_rules | `(tactic| walk_at "ev") => `(tactic| first
  | with_reducible exact EvI.const
  | ((with_reducible refine' EvI.name ?h1 ?h2 ?h3 ?h4); (case h1 => rfl); (case h2 => rfl); (case h3 => rfl); (case h4 => rfl))
  | ((with_reducible refine' EvI.bin ?a ?b ?c); (case a => walk_at "ev"); (case b => walk_at "ev"); (case c => with_reducible assumption)))
local macro_rules | `(tactic| walk_at "ts") => `(tactic| first
  | ((with_reducible refine' TsI.cmp ?a ?b ?c ?d); (case a => walk_at "ev"); (case b => walk_at "ev"); (case c => with_reducible first | exact CmpTo.lt | exact CmpTo.gt | exact CmpTo.eq); (case d => with_unfolding_all rfl))
  | ((with_reducible refine' TsI.or ?a ?b); (case a => walk_at "ts"); (case b => walk_at "ts"))
  | ((with_reducible refine' TsI.and ?a ?b); (case a => walk_at "ts"); (case b => walk_at "ts")))
local macro_rules | `(tactic| walk_at "st") => `(tactic| first
  | ((with_reducible refine' StI.assign ?a ?b ?c ?l ?d); (case a => walk_at "ev"); (case b => rfl); (case c => rfl); (case l => with_reducible rfl); (case d => exact fun _ => rfl))
  | ((with_reducible refine' StI.aug ?a ?x ?o ?b ?c ?l); (case x => rfl); (case a => walk_at "ev"); (case o => with_reducible assumption); (case b => rfl); (case c => rfl); (case l => with_reducible rfl)))
local macro_rules | `(tactic| walk_at "bl") => `(tactic| first
  | exact BlI.nil
  | (refine' BlI.cons ?a ?b; (case a => walk_at "st"); (case b => walk_at "bl")))

theorem ct_div2n1n_0 (w : World) (a b n : Int) (t1 t2 t3 : Tok) (hb : b ≠ 0) (hl : intBits b ≤ 9000) (hn : (intBits a : Int) - n ≤ 4000) : Ct w 21 [.int a t1, .int b t2, .int n t3] [] (fun _ => True) 10 20
    (PairPost (a.fdiv b) (a.fmod b)) := by
  refine ct_def (fr := [("n", .int n t3), ("b", .int b t2), ("a", .int a t1)]) (by with_unfolding_all rfl) (by with_unfolding_all rfl) (fun s => BindsTo.of_eq rfl) (locs rfl) rfl rfl rfl rfl (by decide) ?_
  intro p loose mean mg mb A dp un gd outer base g L' s h₁ hdp hun hpre hg F' N' hlt B' X' C1 C2 T' Q0 hQ0 A1 e1
  k_steps
  have hl2 : b.natAbs.log2 < 9000 := by
    have := intBits_le_iff.mp hl
    exact (Nat.log2_lt (by omega)).mpr this
  refine divmod_N F' N' hb (fun h' F2 N2 => ?_) (.inl (PyProof.noPylong_of_log2 hl2))
  exact leave hQ0 F2 N2 fun _ k => k _ _ _ (Nat.le_of_lt F'.ns.lt)

section
local macro_rules | `(tactic| walk_at "exec If") => `(tactic| walk_at "stop")
noncomputable def D3Inv (b V : Int) (tb : Tok) (k : Nat) (m : Str → Option Value) (news : Led) : Prop := ∀ C : Prop, (∀ q r tq tr, AllLk m [("r", .int r tr), ("q", .int q tq), ("b", .int b tb)] → q * b + r = V → r < b → k = (-r).toNat → news = [] → C) → C
theorem d3_b1 {n : Nat} (h : n ≤ 9000) : max (1 + (n + 1)) 1 + 1 ≤ 20000 := Nat.le_trans (Nat.succ_le_succ (Nat.max_le.mpr ⟨Nat.add_le_add_left (Nat.succ_le_succ h) 1, by decide⟩)) (show 1 + (9000 + 1) + 1 ≤ 20000 by decide)
theorem d3_b2 {n : Nat} (h : n ≤ 9000) : max (max 13000 (9000 + (n + 1)) + 1) 9000 + 1 ≤ 40000 := Nat.le_trans (Nat.succ_le_succ (Nat.max_le.mpr ⟨Nat.succ_le_succ (Nat.max_le.mpr ⟨by decide, Nat.add_le_add_left (Nat.succ_le_succ h) 9000⟩), by decide⟩)) (show 9000 + (9000 + 1) + 1 + 1 ≤ 40000 by decide)
theorem d3_dec {r b : Int} (h : r < 0) (hb : 0 < b) : (-(r + b)).toNat < (-r).toNat := by omega
theorem d3_sub {q b r V : Int} (e : q * b + r = V) : (q - 1) * b + (r + b) = V := by rw [← e]; grind
theorem d3_lt {r b : Int} (h : r < 0) (hb : 0 < b) : r + b < b := by have := Int.add_lt_add_right h b; rwa [Int.zero_add] at this
theorem ct_div3n2n (w : World) (a12 a3 b b1 b2 : Int) (n : Nat) (t1 t2 t3 t4 t5 t6 : Tok) (hb : 0 < b1) (hl : intBits b1 ≤ 9000) (hn : (intBits a12 : Int) - n ≤ 4000) (hnn : n ≤ 9000)
    (h1 : 0 ≤ a12) (h2 : a12 < b) (h3 : 0 ≤ a3) (h4 : a3 < 2 ^ n) (h5 : b = b1 * 2 ^ n + b2) (h6 : 0 ≤ b2) (h7 : b2 < 2 ^ n) :
    Ct w 28 [.int a12 t1, .int a3 t2, .int b t3, .int b1 t4, .int b2 t5, .int n t6] [] (fun _ => True) 12 30
    (PairPost ((a12 * 2 ^ n + a3).fdiv b) ((a12 * 2 ^ n + a3).fmod b)) := by
  have k1 : intBits (1 : Int) ≤ 1 := by decide
  have k2 : intBits (2 : Int) ≤ 2 := by decide
  have k3 : intBits b2 ≤ 9000 := bits_of_lt h6 h7 hnn
  have k4 : intBits a12 ≤ 13000 := by omega
  have hb0 : 0 < b := Int.lt_of_le_of_lt h1 h2
  refine ct_def (fr := [("n", .int n t6), ("b2", .int b2 t5), ("b1", .int b1 t4), ("b", .int b t3), ("a3", .int a3 t2), ("a12", .int a12 t1)]) (by with_unfolding_all rfl) (by with_unfolding_all rfl) (fun s => BindsTo.of_eq rfl) (locs rfl) rfl rfl rfl rfl (by decide) ?_
  intro p loose mean mg mb A dp un gd outer base g L' s h₁ hdp hun hpre hg F' N' hlt B' X' C1 C2 T' Q0 hQ0 A1 e1
  clear hlt hg hpre
  k_steps
  refine joinC (fun R1 => ∀ q r tq tr h tk m, Fr g L' h (ov [("r", .int r tr), ("q", .int q tq), ("n", .int (n : Nat) t6), ("b2", .int b2 t5), ("b", .int b t3), ("a3", .int a3 t2)] m) → 0 ≤ r → q * b1 + r = a12 → Builtin.bitOr (r * 2 ^ n) a3 - q * b2 < b → intBits q ≤ 20000 → intBits r ≤ 40000 → R1 .next { s with heap := h, toks := tk }) ?_ ?_
  · intro R1 hR1; refine wpAny_If ?_
    k_steps
    · rename Fr _ _ _ _ => F2
      have e : a12.fdiv (2 ^ n) = b1 := by assumption
      obtain ⟨u1, u2⟩ := d3_mid1 (b := b) h1 e hb
      obtain ⟨_, i2⟩ := d3_first h1 h2 h3 h4 h5 e hb
      exact hR1 _ _ _ _ _ _ _ (frM F2 rfl) u1 u2 i2 (Nat.le_trans (intBits_sub_le (intBits_mul_le k1 (bits_pow2 n)) k1) (d3_b1 hnn)) (Nat.le_trans (intBits_add_le (intBits_sub_le k4 (intBits_mul_le hl (bits_pow2 n))) hl) (d3_b2 hnn))
    · unfold Stop
      refine useP (ct_div2n1n_0 w a12 b1 n _ _ _ (Int.ne_of_gt hb) hl hn) B' F' X' C1 C2 T' N' rfl (rmD hdp (by decide)) (rmU hun (by decide)) trivial ?_
      intro x ta tb h' tk' hlt' F2 N2
      clear F' N' hlt'
      k_steps
      rename Fr _ _ _ _ => F2
      obtain ⟨u1, u2⟩ := d3_mid2 h1 hb
      obtain ⟨_, i2⟩ := d3_second (a3 := a3) h1 h3 h4 h5 h6 hb
      exact hR1 _ _ _ _ _ _ _ (frM F2 rfl) u1 u2 i2 (Nat.le_trans (intBits_fdiv_le k4) (by decide)) (Nat.le_trans (intBits_fmod_le k4 hl) (by decide))
  intro q r tq tr h2' tk2 m2 F2 u1 u2 i2 kq kr
  clear F' N'
  have N2 : News g L' h2' [] := News.nil
  have i1 := d3_start (a3 := a3) h3 h4 h5 u1 u2
  k_steps
  unfold Stop
  rename Fr _ _ _ _ => F2
  refine whileM (D3Inv b (a12 * 2 ^ n + a3) t3) F2 News.nil (fun _ k => k _ _ _ _ (allLk rfl) i1 i2 rfl rfl) ?_
  clear F2 i1 i2 u1 u2 kq kr
  intro k m₁ news₁ h₂ tk₂ F3 N3 hJ
  refine hJ _ ?_
  clear hJ
  rintro q r tq tr hm e1 e2 rfl rfl Q1 hQ1
  replace F3 := frOv F3 hm
  clear hm
  k_steps
  all_goals (try dsimp only)
  · rename Fr _ _ _ _ => F2
    have hr0 : r < 0 := by assumption
    exact hQ1 _ _ (WStep.intro F2 News.nil (d3_dec hr0 hb0) fun _ k => k _ _ _ _ (allLk rfl) (d3_sub e1) (d3_lt hr0 hb0) rfl rfl)
  · rename Fr _ _ _ _ => F2
    rename News _ _ _ _ => N2
    obtain ⟨j1, j2⟩ := div_mod_of e1 (Int.not_lt.mp (by assumption)) e2
    exact leave hQ0 F2 N2 (by rw [j1, j2]; exact fun _ k => k _ _ _ (Nat.le_of_lt (by assumption)))
end

section
local macro_rules | `(tactic| walk_at "em") => `(tactic| first | with_reducible exact EvM.const | ((with_reducible refine' EvM.name ?a ?b); (case b => rfl); (case a => rfl)) | ((with_reducible refine' EvM.bin ?a ?b ?c); (case a => walk_at "em"); (case b => walk_at "em"); (case c => first | with_reducible assumption | exact OpTo.sub rfl)))
local macro_rules | `(tactic| walk_at "eval BinOp") => `(tactic| (k_here; k_dflt (refine' evW ?F ?e ?L ?_; (case F => k_asm); (case L => rfl); (case e => walk_at "em")); intro t tk))
local macro_rules | `(tactic| walk_at "binaryOp RShift int int") => `(tactic| walk_at "stop")
local macro_rules | `(tactic| walk_at "binaryOp LShift int int") => `(tactic| walk_at "stop")
local macro_rules | `(tactic| walk_at "binaryOp BitAnd int int") => `(tactic| walk_at "stop")
local macro_rules | `(tactic| walk_at "binaryOp BitOr int int") => `(tactic| walk_at "stop")
local macro_rules | `(tactic| walk_at "inplaceOp RShift int int") => `(tactic| walk_at "stop")
local macro_rules | `(tactic| walk_at "inplaceOp LShift int int") => `(tactic| walk_at "stop")
local macro_rules | `(tactic| walk_at "inplaceOp Add int int") => `(tactic| walk_at "stop")
local macro_rules | `(tactic| walk_at "exec If") => `(tactic| walk_at "stop")
theorem d2_even {a b : Int} {n : Nat} (hpar : n % 2 = 0) (hn1 : 1 ≤ n) (hn : n ≤ 7998) (hb : 2 ^ (n - 1) ≤ b) (hb2 : b < 2 ^ n) (ha : 0 ≤ a) (ha2 : a < 2 ^ n * b) :
    ∃ k, n = 2 * k ∧ 1 ≤ k ∧ k ≤ 3999 ∧ 2 ^ (2 * k - 1) ≤ b ∧ b < 2 ^ (2 * k) ∧ 0 ≤ a ∧ a < 2 ^ (2 * k) * b := by
  obtain ⟨k, rfl⟩ : ∃ k, n = 2 * k := ⟨n / 2, by omega⟩
  exact ⟨k, rfl, by omega, by omega, hb, hb2, ha, ha2⟩
theorem d2_odd {a b : Int} {n : Nat} (hpar : n % 2 = 1) (hn : n ≤ 7998) (hb : 2 ^ (n - 1) ≤ b) (hb2 : b < 2 ^ n) (ha : 0 ≤ a) (ha2 : a < 2 ^ n * b) :
    ∃ k, n + 1 = 2 * k ∧ 1 ≤ k ∧ k ≤ 3999 ∧ 2 ^ (2 * k - 1) ≤ b * 2 ∧ b * 2 < 2 ^ (2 * k) ∧ 0 ≤ a * 2 ∧ a * 2 < 2 ^ (2 * k) * (b * 2) := by
  obtain ⟨k, hk⟩ : ∃ k, n + 1 = 2 * k := ⟨(n + 1) / 2, by omega⟩
  have hnk : n = 2 * k - 1 := by omega
  refine ⟨k, hk, by omega, by omega, ?_, ?_, by omega, ?_⟩
  · rw [← hnk, show n = n - 1 + 1 by omega, Int.pow_succ]; omega
  · rw [← hk, Int.pow_succ]; omega
  · have h1 : (2 : Int) ^ (2 * k) = 2 ^ n * 2 := by rw [← hk, Int.pow_succ]
    have h2 : (2 : Int) ^ n * 2 * (b * 2) = 2 ^ n * b * 4 := by grind
    rw [h1, h2]; omega
theorem half_to {k : Nat} : ((2 * k : Nat) : Int).fdiv (2 ^ (1 : Int).toNat) = (k : Int) := by
  rw [fdiv_pos (by decide)]; simp
theorem sh1 {m x : Nat} (h : m ≤ 20000) (hx : x ≤ 4000) : (m : Int) + (x : Int) ≤ 134217728 := Int.ofNat_le.mpr (Nat.le_trans (Nat.add_le_add h hx) (show 20000 + 4000 ≤ 134217728 by decide))
theorem sh2 {m : Nat} (h : m ≤ 20000) : (m : Int) + 1 ≤ 134217728 := Int.ofNat_le.mpr (Nat.le_trans (Nat.succ_le_succ h) (show 20000 + 1 ≤ 134217728 by decide))
theorem bsub {x k : Nat} (h : x ≤ 2 * k) (hk : k ≤ 3999) : (x : Int) - (k : Int) ≤ 4000 := Int.sub_left_le_of_le_add (Int.ofNat_le.mpr (Nat.le_trans h (by rw [Nat.two_mul]; exact Nat.add_le_add_left (Nat.le_trans hk (by decide)) k)))
theorem d2_fin {a b a' b' q r : Int} {n : Nat} (hb : 0 < b) (hc : n % 2 = 0 ∧ a' = a ∧ b' = b ∨ n % 2 = 1 ∧ a' = a * 2 ∧ b' = b * 2) (hq : q = a'.fdiv b') (hr : r = a'.fmod b') :
    q = a.fdiv b ∧ (((n % 2 : Nat) : Int) ≠ 0 → r.fdiv (2 ^ (1 : Int).toNat) = a.fmod b) ∧ (((n % 2 : Nat) : Int) = 0 → r = a.fmod b) := by
  subst hq hr
  rcases hc with ⟨e, rfl, rfl⟩ | ⟨e, rfl, rfl⟩
  · exact ⟨rfl, fun h => absurd (by rw [e]; rfl) h, fun _ => rfl⟩
  · exact ⟨(d2_pad hb).1, fun _ => (d2_pad hb).2, fun h => absurd h (by rw [e]; decide)⟩
/-- the general one: a normal divisor of at most 8,000 bits -/
theorem ct_div2n1n (w : World) (a b : Int) (n : Nat) (t1 t2 t3 : Tok) (hn1 : 1 ≤ n) (hn : n ≤ 7998) (hb : 2 ^ (n - 1) ≤ b) (hb2 : b < 2 ^ n) (ha : 0 ≤ a) (ha2 : a < 2 ^ n * b) :
    Ct w 21 [.int a t1, .int b t2, .int n t3] [] (fun _ => True) 20 60 (PairPost (a.fdiv b) (a.fmod b)) := by
  have hb0 : 0 < b := Int.lt_of_lt_of_le (pow2_pos _) hb
  have kb : intBits b ≤ 7998 := bits_of_lt (Int.le_of_lt hb0) hb2 hn
  have ka : intBits a ≤ 15996 := by
    refine bits_of_lt ha (Int.lt_of_lt_of_le ha2 ?_) (Nat.add_le_add hn hn)
    rw [Int.pow_add]
    exact Int.mul_le_mul_of_nonneg_left (Int.le_of_lt hb2) (Int.le_of_lt (pow2_pos _))
  by_cases hlim : (intBits a : Int) - n ≤ 4000
  · intro p loose mean mg mb dp un gd cn cs aa ccd cl outer A₀ base h₀ L m rest s Q E B F X C1 C2 T hks N hdis hdd huu hpre hret
    exact ct_div2n1n_0 w a b n t1 t2 t3 (Int.ne_of_gt hb0) (Nat.le_trans kb (by decide)) hlim p loose mean mg mb dp un gd cn cs aa ccd cl outer A₀ base h₀ L m rest s Q E B F X C1 C2 T hks N hdis (Nat.lt_of_le_of_lt (Nat.add_le_add_left (by decide) _) hdd) (Nat.lt_of_le_of_lt (Nat.add_le_add_left (by decide) _) huu) hpre hret
  refine ct_def (fr := [("n", .int n t3), ("b", .int b t2), ("a", .int a t1)]) (by with_unfolding_all rfl) (by with_unfolding_all rfl) (fun s => BindsTo.of_eq rfl) (locs rfl) rfl rfl rfl rfl (by decide) ?_
  intro p loose mean mg mb A dp un gd outer base g L' s h₁ hdp hun hpre hg F' N' hlt B' X' C1 C2 T' Q0 hQ0 A1 e1
  clear hlt hg hpre
  have k1 : intBits (1 : Int) ≤ 1 := by decide
  have o0 : OpTo .BitAnd (n : Nat) 1 ((n % 2 : Nat) : Int) := OpTo.and (by rw [bitAnd_m1]; rfl)
  k_steps
  refine wpAny_If ?_
  k_steps
  refine joinC (fun R1 => ∀ (a' b' : Int) (k : Nat) tp tn tb ta h tk m, Fr g L' h (ov [("pad", .int ((n % 2 : Nat) : Int) tp), ("n", .int (2 * k : Nat) tn), ("b", .int b' tb), ("a", .int a' ta)] m) → (n % 2 = 0 ∧ a' = a ∧ b' = b ∨ n % 2 = 1 ∧ a' = a * 2 ∧ b' = b * 2) →
    1 ≤ k → k ≤ 3999 → 2 ^ (2 * k - 1) ≤ b' → b' < 2 ^ (2 * k) → 0 ≤ a' → a' < 2 ^ (2 * k) * b' → R1 .next { s with heap := h, toks := tk }) ?_ ?_
  · intro R1 hR1; refine wpAny_If ?_
    k_steps
    · refine ilshift_to (v := a * 2) (by decide) ka (by decide) rfl ?_
      k_steps
      refine ilshift_to (v := b * 2) (by decide) kb (by decide) rfl ?_
      k_steps
      have hpar : n % 2 = 1 := by omega
      obtain ⟨k, hk, x1, x2, x3, x4, x5, x6⟩ := d2_odd hpar hn hb hb2 ha ha2
      refine iadd_to (v := ((2 * k : Nat) : Int)) (by rw [← hk]; rfl) ?_
      k_steps
      rename Fr _ _ _ _ => F2
      exact hR1 _ _ k _ _ _ _ _ _ _ (frM F2 rfl) (.inr ⟨hpar, rfl, rfl⟩) x1 x2 x3 x4 x5 x6
    · have hpar : n % 2 = 0 := by omega
      obtain ⟨k, rfl, x1, x2, x3, x4, x5, x6⟩ := d2_even hpar hn1 hn hb hb2 ha ha2
      rename Fr _ _ _ _ => F2
      exact hR1 _ _ k _ _ _ _ _ _ _ (frM F2 rfl) (.inl ⟨hpar, rfl, rfl⟩) x1 x2 x3 x4 x5 x6
  intro a' b' k tp tn tb ta h2 tk2 m2 F2 hcase x1 x2 x3 x4 x5 x6
  have N2 : News g L' h2 [] := News.nil
  k_sweep
  obtain ⟨f1, f2, f3, f4, f5, f6, f7, f8, f9⟩ := d2_facts x1 x3 x5 x6
  have hpk := pow2_pos k
  have hb0' : 0 < b' := Int.lt_of_lt_of_le (pow2_pos _) x3
  have kb' : intBits b' ≤ 9000 := bits_of_lt (Int.le_of_lt hb0') x4 (by omega)
  have ka' : intBits a' ≤ 20000 := by
    refine bits_of_lt (n := 2 * k + 2 * k) x5 (Int.lt_of_lt_of_le x6 ?_) (by omega)
    rw [Int.pow_add]
    exact Int.mul_le_mul_of_nonneg_left (Int.le_of_lt x4) (Int.le_of_lt (pow2_pos _))
  have o1 : OpTo .RShift (2 * k : Nat) 1 k := OpTo.rsh (by decide) half_to
  have o2 : OpTo .LShift 1 k (2 ^ k) := OpTo.lsh (nn _) k1 (sh1 (by decide) (Nat.le_trans x2 (by decide))) (by rw [Int.one_mul]; rfl)
  have o3 : OpTo .RShift b' k (b' / 2 ^ k) := OpTo.rsh (nn _) (fdiv_pos hpk)
  have o4 : OpTo .BitAnd b' (2 ^ k - 1) (b' % 2 ^ k) := OpTo.and (kbt_mask _ _)
  have o5 : OpTo .RShift a' (2 * k : Nat) (a' / 2 ^ (2 * k)) := OpTo.rsh (nn _) (fdiv_pos (pow2_pos _))
  have o6 : OpTo .RShift a' k (a' / 2 ^ k) := OpTo.rsh (nn _) (fdiv_pos hpk)
  have o7 : OpTo .BitAnd (a' / 2 ^ k) (2 ^ k - 1) (a' / 2 ^ k % 2 ^ k) := OpTo.and (kbt_mask _ _)
  have o8 : OpTo .BitAnd a' (2 ^ k - 1) (a' % 2 ^ k) := OpTo.and (kbt_mask _ _)
  k_steps
  refine useP (ct_div3n2n w _ _ _ _ _ k _ _ _ _ _ _ f1 (bits_ediv_le kb') (bsub (bits_of_lt f2 (Int.lt_trans f3 x4) (Nat.le_refl _)) x2) (Nat.le_trans x2 (by decide)) f2 f3 f4 f5 f6 f7 f8) B' (by k_asm) X' C1 C2 T' (by k_asm) rfl (rmD hdp (by decide)) (rmU hun (by decide)) trivial ?_
  intro x ta tb h' tk' hlt' F3 N3
  rw [f9] at N3
  clear hlt'
  k_sweep
  k_steps
  have g1 : 0 ≤ (a' / 2 ^ k).fmod b' := by rw [fmod_pos hb0']; exact Int.emod_nonneg _ (Int.ne_of_gt hb0')
  have g2 : (a' / 2 ^ k).fmod b' < b' := by rw [fmod_pos hb0']; exact Int.emod_lt_of_pos _ hb0'
  refine useP (ct_div3n2n w _ _ _ _ _ k _ _ _ _ _ _ f1 (bits_ediv_le kb') (bsub (bits_of_lt g1 (Int.lt_trans g2 x4) (Nat.le_refl _)) x2) (Nat.le_trans x2 (by decide)) g1 g2 (Int.emod_nonneg _ (Int.ne_of_gt hpk)) (Int.emod_lt_of_pos _ hpk) f6 f7 f8) B' (by k_asm) X' C1 C2 T' (by k_asm) rfl (rmD hdp (by decide)) (rmU hun (by decide)) trivial ?_
  intro x ta tb h' tk' hlt' F4 N4
  clear hlt'
  k_sweep
  obtain ⟨j1, j2, j3⟩ := d2_fin hb0 hcase (d2_join (a := a') (k := k) hb0' x5).1 (d2_join (a := a') (k := k) hb0' x5).2
  k_steps
  refine joinC (fun R1 => ∀ t1 t2 t3 t4 h tk m, Fr g L' h (ov [("q1", .int ((a' / 2 ^ k).fdiv b') t1), ("half_n", .int k t2), ("q2", .int (((a' / 2 ^ k).fmod b' * 2 ^ k + a' % 2 ^ k).fdiv b') t3), ("r", .int (a.fmod b) t4)] m) → R1 .next { s with heap := h, toks := tk }) ?_ ?_
  · intro R1 hR1; refine wpAny_If ?_
    k_steps
    · refine irshift_to (v := a.fmod b) (by decide) (j2 (by assumption)) ?_
      k_steps
      rename Fr _ _ _ _ => F2
      exact hR1 _ _ _ _ _ _ _ (frM F2 rfl)
    · rename Fr _ _ _ _ => F2
      exact hR1 _ _ _ _ _ _ _ (frOv F2 ⟨rfl, rfl, rfl, by rw [← j3 (by assumption)]; rfl, trivial⟩)
  intro t5 t6 t7 t8 h5 tk5 m5 F5
  have N5 : News g L' h5 [] := News.nil
  k_sweep
  have o9 : OpTo .LShift ((a' / 2 ^ k).fdiv b') k ((a' / 2 ^ k).fdiv b' * 2 ^ k) := OpTo.lsh (nn _) (intBits_fdiv_le (bits_ediv_le ka')) (sh1 (Nat.le_refl _) (Nat.le_trans x2 (by decide))) rfl
  have o10 : OpTo .BitOr ((a' / 2 ^ k).fdiv b' * 2 ^ k) _ (a.fdiv b) := OpTo.or j1
  k_steps
  all_goals (try dsimp only)
  rename Fr _ _ _ _ => F6
  rename News _ _ _ _ => N6
  exact leave hQ0 F6 N6 fun _ k => k _ _ _ (Nat.le_of_lt (by assumption))
end

noncomputable def fnParts : Stmt → Option (Arguments × List Stmt × Scope)
  | .FunctionDef _ args body _ _ _ scope _ _ _ => some (args, body, scope)
  | _ => none
noncomputable def bodyAt (l : List Stmt) (i : Nat) : List Stmt := match l[i]? with | some (.FunctionDef _ _ body _ _ _ _ _ _ _) => body | _ => []
/-- the parts of the inner def of _digits2int, read off the text's term -/
noncomputable def d2i : Subtype fun x : Arguments × List Stmt × Scope => ((bodyAt PySem.Challenge.pw_op0115_01.main.body 5)[0]?).bind fnParts = some x := ⟨_, rfl⟩
noncomputable def i2d : Subtype fun x : Arguments × List Stmt × Scope => ((bodyAt PySem.Challenge.pw_op0115_01.main.body 4)[1]?).bind fnParts = some x := ⟨_, rfl⟩


section
local macro_rules | `(tactic| walk_at "binaryOp RShift int int") => `(tactic| walk_at "stop")
local macro_rules | `(tactic| walk_at "binaryOp Mult int int") => `(tactic| walk_at "stop")
local macro_rules | `(tactic| walk_at "binaryOp LShift int int") => `(tactic| walk_at "stop")
noncomputable abbrev d2iFoot (f c' ci cn cd : Addr) (oi on od oc : Obj) (doc pm ctv : Value) (qual : Str) : Led :=
  [(f, fnMade "inner" qual d2i.val.1 d2i.val.2.1 d2i.val.2.2 [("n", cn), ("inner", ci), ("digits", cd)] doc pm c' ctv), (c', oc), (ci, oi), (cn, on), (cd, od)]
/-- what the inner def gives -/
noncomputable abbrev D2IPost (foot : Led) (v : Int) := Imp fun _ M => ∀ t, M (.int v t) foot
theorem ct_d2i_inner (w : World) (f c' ci cn cd lst : Addr) (oi on od oc : Obj) (doc pm ctv : Value) (qual : Str) (cvs : Array Value) (ctk tn : Tok) (n : Nat) (vals : List Value) (ds : List Int)
    (hcd : oc.data = .fields cvs) (hcv : cvs[1]? = some (.str qual ctk)) (di : oi.data = .cell (some (.ref f))) (dn : on.data = .cell (some (.int n tn))) (dd : od.data = .cell (some (.ref lst)))
    (hI : IntsAre vals ds) (hb : ∀ d ∈ ds, intBits d ≤ 40000) (hn : n ≤ 30000) (hlen : ds.length ≤ 64) (hne : lst ≠ f ∧ lst ≠ c' ∧ lst ≠ ci ∧ lst ≠ cn ∧ lst ≠ cd) :
    ∀ (m x r : Nat) (t1 t2 : Tok), x < r → r ≤ ds.length → r - x ≤ m →
    Ct w f [.int x t1, .int r t2] (d2iFoot f c' ci cn cd oi on od oc doc pm ctv qual)
      (fun h => h.IsList lst vals.toArray) m (3 * m + 20) (D2IPost (d2iFoot f c' ci cn cd oi on od oc doc pm ctv qual) (dval n ((ds.take r).drop x))) := by
  intro m
  induction m with
  | zero =>
    intro x r t1 t2 h1 h2 h3
    exact absurd h1 (Nat.not_lt.mpr (Nat.le_of_sub_eq_zero (Nat.le_zero.mp h3)))
  | succ m ih =>
    intro x r t1 t2 h1 h2 h3
    refine ct_nest (fr := [("R", .int r t2), ("L", .int x t1)]) (.head _) (.tail _ (.head _)) hcd hcv (fun s => BindsTo.of_eq rfl) (locs rfl) rfl rfl rfl rfl (by decide) ?_
    intro p loose mean mg mb A dp un gd outer base g L' s h₁ hdp hun hpre hg F' N' hlt B' X' C1 C2 T' Q0 hQ0 A1 e1
    have hgl : g.IsList lst vals.toArray := by
      obtain ⟨o, e, q⟩ := hpre
      refine ⟨o, hg _ _ e ?_, q⟩
      simp only [d2iFoot, List.map_cons, List.map_nil, List.mem_cons, List.not_mem_nil, or_false, not_or]
      exact hne
    simp only [d2i]
    k_steps
    · rename (_ = (r : Int)) => hxr
      obtain rfl := cast_eq hxr
      (try dsimp only)
      refine leave hQ0 F' N' (impI ?_)
      rw [slice_one h2, Int.toNat_natCast, List.getD_eq_getElem?_getD, List.getElem?_eq_getElem h2]
      simp [dval]
    · rename (_ ≠ (r : Int)) => hxr
      obtain ⟨k, g1, g2, g3⟩ := mid_ex h1 (cast_ne hxr)
      have g4 := k64 g2 (Nat.le_trans h2 hlen)
      refine rshift_to (v := ((x + k : Nat) : Int)) (by decide) (mid_div g3) ?_
      k_steps
      refine mul_to (v := ((k * n : Nat) : Int)) (m := 64) (k := 64) (bits64s g4) (bits64 (Nat.le_trans hn (by decide))) (by decide) mid_mul ?_
      k_steps
      refine useK0 (ih (x + k) r _ _ g2 h2 (mid_b g2 g1 h3)) B' (by k_asm) X' C1 C2 T' (by k_asm) rfl (rmD hdp (Nat.le_refl _)) (rmU hun (Nat.le_refl _)) (lstKeep (by k_asm) hgl) ?_
      intro N h' tk' hlt' F2 tv N2
      clear hlt'
      k_sweep
      have b1 : intBits (dval n ((ds.take r).drop (x + k))) ≤ 2100000 := by
        refine Nat.le_trans (dval_bits (W := 40000) _ fun d hd => hb d (List.mem_of_mem_take (List.mem_of_mem_drop hd))) ?_
        rw [List.length_drop, List.length_take, Nat.min_eq_left h2]
        have : (n + 2) * (r - (x + k)) ≤ 30002 * 64 := Nat.mul_le_mul (Nat.add_le_add_right hn 2) (Nat.le_trans (Nat.sub_le _ _) (Nat.le_trans h2 hlen))
        exact Nat.le_trans (Nat.add_le_add_left this _) (by decide)
      k_steps
      refine lshift_to (v := dval n ((ds.take r).drop (x + k)) * 2 ^ (k * n)) (nn _) b1 (sh_room (shift_le g4 hn) (by decide)) rfl ?_
      k_steps
      refine useK0 (ih x (x + k) _ _ (Nat.lt_add_of_pos_right g1) (Nat.le_trans (Nat.le_of_lt g2) h2) (mid_a g2 h3)) B' (by k_asm) X' C1 C2 T' (by k_asm) rfl (rmD hdp (Nat.le_refl _)) (rmU hun (Nat.le_refl _)) (lstKeep (by k_asm) hgl) ?_
      intro N h' tk' hlt' F2 tv N2
      clear hlt'
      k_sweep
      k_steps
      all_goals (try dsimp only)
      rename Fr _ _ _ _ => F2
      rename News _ _ _ _ => N2
      refine leave hQ0 F2 N2 (impI ?_)
      rw [← dval_split (n := n) (x := x) (m := x + k) (Nat.le_add_right _ _) (Nat.le_of_lt g2) h2, Nat.add_sub_cancel_left]
end

section
/-- the digits to a number -/
noncomputable abbrev D2Post (cB : Addr) (x : Int) := Imp fun N M => ∀ oB' cB' ocB' t', TOK 37 47 4 "_digits2int.<locals>.inner" oB' cB' ocB' → (cB' = cB ∨ N ≤ cB') → M (.int x t') [(37, oB'), (cB', ocB')]
theorem ct_digits2int (w : World) (lst : Addr) (n : Nat) (t : Tok) (oB ocB : Obj) (cB : Addr) (vals : List Value) (ds : List Int) (hT : TOK 37 47 4 "_digits2int.<locals>.inner" oB cB ocB)
    (hI : IntsAre vals ds) (hb : ∀ d ∈ ds, intBits d ≤ 40000) (hn : n ≤ 30000) (hlen : ds.length ≤ 64) (hl1 : lst ≠ 37) (hl2 : lst ≠ cB) :
    Ct w 42 [.ref lst, .int n t] [(37, oB), (cB, ocB)] (fun h => h.IsList lst vals.toArray) 70 300
      (D2Post cB (dval n ds)) := by
  refine ct_defC (binds := [("digits", .ref lst), ("n", .int n t)]) (by with_unfolding_all rfl) (by with_unfolding_all rfl) (fun s => BindsTo.of_eq rfl) rfl (by decide +kernel) rfl rfl rfl ?_
  intro p loose mean mg mb A dp un gd outer base g L' s h₁ tk cells hdp hun hpre hg F' N' hY hlt B' X' C1 C2 T' Q0 hQ0 A1 e1
  obtain ⟨oi, on, od, rfl, d1, d2, d3⟩ := CellsAre.three hY
  replace d1 : oi.data = .cell none := d1
  replace d2 : on.data = .cell (some (.int n t)) := d2
  replace d3 : od.data = .cell (some (.ref lst)) := d3
  replace F' := frL F' [] trivial (fun y _ => by unfold bindL; rfl)
  (try simp only [List.cons_append, List.nil_append] at N'); (try dsimp only)
  k_lt hlt
  clear hY
  have hll : lst < L' := by
    obtain ⟨o, e, _⟩ := hpre
    exact Nat.lt_of_lt_of_le (Heap.lt_size (hg _ _ e (by simp only [List.map_cons, List.map_nil, List.mem_cons, List.not_mem_nil, or_false, not_or]; exact ⟨hl1, hl2⟩))) F'.above
  have hgl : g.IsList lst vals.toArray := by
    obtain ⟨o, e, q⟩ := hpre
    exact ⟨o, hg _ _ e (by simp only [List.map_cons, List.map_nil, List.mem_cons, List.not_mem_nil, or_false, not_or]; exact ⟨hl1, hl2⟩), q⟩
  replace hll := ltN hll
  replace hl2 := neN hl2
  k_steps
  refine nestDef_K rfl rfl rfl ?_
  refine nest_any (pre := [_, _, _]) F' N' (by k_all) T' C1 rfl hT rfl ?_
  intro f1 c1 oc1 vs1 tt1 ct1 dc1 hh1 tk1 F2 N2 d1x d2x hc1 hc2 l1x l2x l3x
  (try simp only [List.cons_append, List.nil_append] at N2)
  k_lt l1x
  replace hc1 := neN hc1
  replace l2x := ltN l2x
  replace l3x := ltN l3x
  have hc3 : L' + 1 + 1 + 1 ≠ c1 ∧ L' + 1 + 1 ≠ c1 ∧ L' + 1 ≠ c1 ∧ lst ≠ c1 ∧ (c1 = cB ∨ L' ≤ c1) := by
    rcases hc2 with rfl | hc2
    · exact ⟨by k_ne, by k_ne, by k_ne, hl2, .inl rfl⟩
    · k_lt hc2
      exact ⟨by k_ne, by k_ne, by k_ne, neN (by omega), .inr (leN (by omega))⟩
  obtain ⟨z1, z2, z3, z4, z5⟩ := hc3
  clear hc2 F' N'
  k_steps
  · unfold Stop
    rename Fr _ _ _ _ => F3
    rename News _ _ _ _ => N3
    refine useK (rest := [(37, _)]) (ct_d2i_inner w f1 c1 _ _ _ lst _ on od _ _ _ _ _ _ _ _ n vals ds d1x d2x (by assumption) d2 d3 hI hb hn hlen ⟨by k_ne, z4, by k_ne, by k_ne, by k_ne⟩ 64 0 ds.length _ _ (by assumption) (Nat.le_refl _) hlen) B' F3 X' C1 C2 T' (news_mv N3) (by walk_at "dis") rfl (rmD hdp (by decide)) (rmU hun (by decide)) (lstKeep F3 hgl) ?_
    intro N h' tk' hlt' F4 tv N4
    rw [List.take_length, List.drop_zero]
    exact leave hQ0 F4 (news_sub N4 (l' := [(37, _), (c1, oc1)]) (by walk_at "sub")) fun _ k => k _ _ _ tv (.inr ⟨rfl, hc1, _, _, d1x, d2x⟩) z5
  · rename Fr _ _ _ _ => F3
    rename News _ _ _ _ => N3
    obtain rfl : ds = [] := List.eq_nil_of_length_eq_zero (by omega)
    exact leave hQ0 F3 (news_sub N3 (l' := [(37, _), (c1, oc1)]) (by walk_at "sub")) fun _ k => k _ _ _ _ (.inr ⟨rfl, hc1, _, _, d1x, d2x⟩) z5
end

section
local macro_rules | `(tactic| walk_at "binaryOp RShift int int") => `(tactic| walk_at "stop")
local macro_rules | `(tactic| walk_at "binaryOp Mult int int") => `(tactic| walk_at "stop")
local macro_rules | `(tactic| walk_at "binaryOp LShift int int") => `(tactic| walk_at "stop")
local macro_rules | `(tactic| walk_at "binaryOp BitXor int int") => `(tactic| walk_at "stop")
noncomputable abbrev i2dFoot (lst f c' ci cn ca : Addr) (vals : List Value) (n0 : Nat) (oi on oa oc : Obj) (doc pm ctv : Value) (qual : Str) : Led :=
  [(lst, listOf vals.toArray n0), (f, fnMade "inner" qual i2d.val.1 i2d.val.2.1 i2d.val.2.2 [("n", cn), ("inner", ci), ("a_digits", ca)] doc pm c' ctv), (c', oc), (ci, oi), (cn, on), (ca, oa)]
/-- what the inner def leaves -/
noncomputable abbrev I2IPost (foot : List Value → Led) (ns : List Int) := Imp fun _ M => ∀ vals', IntsAre vals' ns → M .none (foot vals')
theorem put_len {ns : List Int} {n x k : Nat} {y : Int} (h : x + k ≤ ns.length) : (ns.take x ++ digs n y k ++ ns.drop (x + k)).length = ns.length := by
  rw [List.length_append, List.length_append, digs_length, List.length_take, List.length_drop, Nat.min_eq_left (by omega)]; omega
theorem upper_lt {n x r k : Nat} {y : Int} (h : x + k < r) (hy : y < 2 ^ ((r - x) * n)) : y / 2 ^ (k * n) < 2 ^ ((r - (x + k)) * n) := by
  refine Int.ediv_lt_of_lt_mul (pow2_pos _) ?_
  rw [← Int.pow_add, ← Nat.add_mul, sub_up h]; exact hy
theorem put_two' {ns : List Int} {n x r k : Nat} {y : Int} {vals : List Value} (h : x + k < r) (h2 : r ≤ ns.length)
    (hI : IntsAre vals ((ns.take x ++ digs n (y % 2 ^ (k * n)) k ++ ns.drop (x + k)).take (x + k) ++ digs n (y / 2 ^ (k * n)) (r - (x + k)) ++ (ns.take x ++ digs n (y % 2 ^ (k * n)) k ++ ns.drop (x + k)).drop r)) :
    IntsAre vals (ns.take x ++ digs n y (r - x) ++ ns.drop r) := by
  have key := put_two (ns := ns) (n := n) (L := x) (a := k) (b := r - (x + k)) (x := y) (by omega)
  rw [Nat.add_sub_cancel' (Nat.le_of_lt h), Nat.add_comm k, sub_up h] at key
  rw [← key]; exact hI
theorem ct_i2d_inner (w : World) (f c' ci cn ca lst : Addr) (n0 : Nat) (oi on oa oc : Obj) (doc pm ctv : Value) (qual : Str) (cvs : Array Value) (ctk tn : Tok) (n : Nat)
    (hcd : oc.data = .fields cvs) (hcv : cvs[1]? = some (.str qual ctk)) (di : oi.data = .cell (some (.ref f))) (dn : on.data = .cell (some (.int n tn))) (da : oa.data = .cell (some (.ref lst)))
    (hn : n ≤ 30000) (hne : lst ≠ f ∧ lst ≠ c' ∧ lst ≠ ci ∧ lst ≠ cn ∧ lst ≠ ca) :
    ∀ (m x r : Nat) (y : Int) (t0 t1 t2 : Tok) (vals : List Value) (ns : List Int), IntsAre vals ns → ns.length ≤ 64 → 0 ≤ y → y < 2 ^ ((r - x) * n) → intBits y ≤ 100000 → x < r → r ≤ ns.length → r - x ≤ m →
    Ct w f [.int y t0, .int x t1, .int r t2] (i2dFoot lst f c' ci cn ca vals n0 oi on oa oc doc pm ctv qual) (fun _ => True) m (3 * m + 20)
      (I2IPost (fun vals' => i2dFoot lst f c' ci cn ca vals' n0 oi on oa oc doc pm ctv qual) (ns.take x ++ digs n y (r - x) ++ ns.drop r)) := by
  intro m
  induction m with
  | zero =>
    intro x r y t0 t1 t2 vals ns hI hlen hy0 hy1 hyb h1 h2 h3
    exact absurd h1 (Nat.not_lt.mpr (Nat.le_of_sub_eq_zero (Nat.le_zero.mp h3)))
  | succ m ih =>
    intro x r y t0 t1 t2 vals ns hI hlen hy0 hy1 hyb h1 h2 h3
    refine ct_nest (fr := [("R", .int r t2), ("L", .int x t1), ("x", .int y t0)]) (.tail _ (.head _)) (.tail _ (.tail _ (.head _))) hcd hcv (fun s => BindsTo.of_eq rfl) (locs rfl) rfl rfl rfl rfl (by decide) ?_
    intro p loose mean mg mb A dp un gd outer base g L' s h₁ hdp hun hpre hg F' N' hlt B' X' C1 C2 T' Q0 hQ0 A1 e1
    obtain ⟨q1, q2, q3, q4, q5⟩ := hne
    replace q1 := neN q1; replace q2 := neN q2; replace q3 := neN q3; replace q4 := neN q4; replace q5 := neN q5
    simp only [i2d]
    k_steps
    · rename (_ = (r : Int)) => hxr
      obtain rfl := cast_eq hxr
      (try dsimp only)
      rename Fr _ _ _ _ => F2
      rename News _ _ _ _ => N2
      rename IntsAre _ _ => hi
      refine leave hQ0 F2 N2 fun _ k => k _ ?_
      rw [Int.toNat_natCast] at hi ⊢
      rw [Nat.add_sub_cancel_left, ← put_one h2 hy0 (by simpa using hy1)]
      exact hi
    · rename (_ ≠ (r : Int)) => hxr
      obtain ⟨k, g1, g2, g3⟩ := mid_ex h1 (cast_ne hxr)
      have g4 := k64 g2 (Nat.le_trans h2 hlen)
      have hp := pow2_pos (k * n)
      refine rshift_to (v := ((x + k : Nat) : Int)) (by decide) (mid_div g3) ?_
      k_steps
      refine mul_to (v := ((k * n : Nat) : Int)) (m := 64) (k := 64) (bits64s g4) (bits64 (Nat.le_trans hn (by decide))) (by decide) mid_mul ?_
      k_steps
      refine rshift_to (v := y / 2 ^ (k * n)) (nn _) (fdiv_pos hp) ?_
      k_steps
      refine lshift_to (v := y / 2 ^ (k * n) * 2 ^ (k * n)) (nn _) (bits_ediv_le hyb) (sh_room (shift_le g4 hn) (by decide)) rfl ?_
      k_steps
      refine xor_to (v := y % 2 ^ (k * n)) (xor_upper hy0) ?_
      k_steps
      refine useK0 (ih x (x + k) _ _ _ _ vals ns hI hlen (Int.emod_nonneg _ (Int.ne_of_gt hp)) (by rw [Nat.add_sub_cancel_left]; exact Int.emod_lt_of_pos _ hp)
        (bits_of_lt (Int.emod_nonneg _ (Int.ne_of_gt hp)) (Int.lt_of_le_of_lt (emod_le_self hy0 hp) (lt_of_bits hyb)) (Nat.le_refl _)) (Nat.lt_add_of_pos_right g1) (Nat.le_trans (Nat.le_of_lt g2) h2) (mid_a g2 h3)) B' (by k_asm) X' C1 C2 T' (by k_asm) rfl (rmD hdp (Nat.le_refl _)) (rmU hun (Nat.le_refl _)) trivial ?_
      intro N h' tk' hlt' F2 vals1 hI1 N2
      rw [Nat.add_sub_cancel_left] at hI1
      clear hlt'
      k_sweep
      k_steps
      have hl1 := put_len (ns := ns) (n := n) (x := x) (k := k) (y := y % 2 ^ (k * n)) (Nat.le_trans (Nat.le_of_lt g2) h2)
      refine useK0 (ih (x + k) r _ _ _ _ vals1 _ hI1 (by rw [hl1]; exact hlen) (Int.ediv_nonneg hy0 (Int.le_of_lt hp)) (upper_lt g2 hy1) (bits_ediv_le hyb) g2 (by rw [hl1]; exact h2) (mid_b g2 g1 h3)) B' (by k_asm) X' C1 C2 T' (by k_asm) rfl (rmD hdp (Nat.le_refl _)) (rmU hun (Nat.le_refl _)) trivial ?_
      intro N h' tk' hlt' F2 vals2 hI2 N2
      clear hlt'
      k_sweep
      k_steps
      all_goals (try dsimp only)
      rename Fr _ _ _ _ => F2
      rename News _ _ _ _ => N2
      exact leave hQ0 F2 N2 fun _ k => k _ (put_two' g2 h2 hI2)
end
theorem len_to {prog : Program} {w : World} {A : Around} {E : Value → Shared → Prop} {s : Shared} {h₀ : Heap} {L l : Addr} {news : Led} {vs : List Value} {n0 k : Nat} {Q : Value → Shared → Prop} (N : News h₀ L s.heap news)
    (hm : (l, listOf vs.toArray n0) ∈ news) (hk : vs.length = k) (hle : k ≤ 16777216) (h : Q (.int k (s.toks + 1)) { s with toks := s.toks + 1 + 1 }) : wpAny (model prog w) A (call (.builtin "len") [.ref l]) Q E s := by
  subst hk
  refine len_list (PySem.IsL.isList (n := n0) (N _ hm).1) (by rw [List.size_toArray]; omega) ?_
  rw [List.size_toArray]; exact h
theorem news_p7' {h₀ h : Heap} {L : Addr} {a b c d e f g : Addr × Obj} (N : News h₀ L h [a, b, c, d, e, f, g]) : News h₀ L h [b, a, g, c, e, d, f] := news_pick [[a], [b], [c], [d], [e], [f], [g]] [1, 0, 6, 2, 4, 3, 5] N
/-- enough digits -/
theorem digit_count {a : Int} {n : Nat} (hn : 1 ≤ n) (ha : 0 ≤ a) : a < 2 ^ ((intBits a + n - 1) / n * n) := by
  refine Int.lt_of_lt_of_le (lt_of_bits (Nat.le_refl _)) ?_
  have h := Nat.div_add_mod (intBits a + n - 1) n
  have h2 := Nat.mod_lt (intBits a + n - 1) (show 0 < n by omega)
  have h3 : intBits a ≤ (intBits a + n - 1) / n * n := by rw [Nat.mul_comm]; omega
  exact_mod_cast Nat.pow_le_pow_right (show 0 < 2 by decide) h3
theorem bits_pos {a : Int} (h : a ≠ 0) : 1 ≤ intBits a := by
  rcases Nat.eq_zero_or_pos (intBits a) with e | e
  · have := intBits_le_iff.mp (Nat.le_of_eq e)
    simp at this; exact absurd this h
  · exact e
theorem bits_zero : intBits (0 : Int) = 0 := by decide

section
local macro_rules | `(tactic| walk_at "binaryOp FloorDiv int int") => `(tactic| walk_at "stop")
local macro_rules | `(tactic| walk_at "binaryOp Mult ref int") => `(tactic| walk_at "stop")
/-- a number to its digits -/
noncomputable abbrev I2Post (cA : Addr) (ds : List Int) := Imp fun N M => ∀ lst vals n0 oA' cA' ocA', N ≤ lst → IntsAre vals ds → TOK 30 32 4 "_int2digits.<locals>.inner" oA' cA' ocA' → (cA' = cA ∨ N ≤ cA') → lst ≠ cA' → M (.ref lst) [(lst, listOf (List.toArray vals) n0), (30, oA'), (cA', ocA')]
theorem ct_int2digits (w : World) (a : Int) (n : Nat) (ta t : Tok) (oA ocA : Obj) (cA : Addr) (hT : TOK 30 32 4 "_int2digits.<locals>.inner" oA cA ocA)
    (hn1 : 1 ≤ n) (hn : n ≤ 30000) (ha : 0 ≤ a) (hb : intBits a ≤ 60000) (hk : (intBits a + n - 1) / n ≤ 64) :
    Ct w 35 [.int a ta, .int n t] [(30, oA), (cA, ocA)] (fun _ => True) 70 300
      (I2Post cA (digs n a ((intBits a + n - 1) / n))) := by
  refine ct_defC (binds := [("a", .int a ta), ("n", .int n t)]) (by with_unfolding_all rfl) (by with_unfolding_all rfl) (fun s => BindsTo.of_eq rfl) rfl (by decide +kernel) rfl rfl rfl ?_
  intro p loose mean mg mb A dp un gd outer base g L' s h₁ tk cells hdp hun hpre hg F' N' hY hlt B' X' C1 C2 T' Q0 hQ0 A1 e1
  obtain ⟨oi, oa, on, rfl, d1, d2, d3⟩ := CellsAre.three hY
  replace d1 : oi.data = .cell none := d1
  replace d2 : oa.data = .cell none := d2
  replace d3 : on.data = .cell (some (.int n t)) := d3
  replace F' := frL F' [("a", .int a ta)] (allLk rfl) (fun y hy => by simp only [List.map, List.mem_cons, List.not_mem_nil, or_false] at hy; show (if y = Str.ofString "a" then some (Value.int a ta) else none) = none; rw [if_neg hy])
  (try simp only [List.cons_append, List.nil_append] at N'); (try dsimp only)
  k_lt hlt
  clear hY
  k_steps
  refine floordiv_to (v := (((intBits a + n - 1) / n : Nat) : Int)) (by omega) (PyProof.noPylong_small (by omega)) (by rw [fdiv_pos (by omega)]; push_cast; congr 1; omega) ?_
  k_steps
  refine mulRep (by k_asm) (by k_asm) (by k_mem) (by omega) ?_
  intro D h' F2 N2 l1 l2
  k_lt l1
  k_lt2 l2
  k_sweep
  replace N2 := news_sub (l' := [(D, _), (L' + 1 + 1 + 1, oi), (L' + 1 + 1, oa), (L' + 1, on), (30, oA), (cA, ocA)]) N2 (by walk_at "sub")
  have hI := ints_rep 0 tk ((intBits a + n - 1) / n)
  k_steps
  rename Fr _ _ _ _ => F3
  rename News _ _ _ _ => N3
  refine nestDef_K rfl rfl rfl ?_
  refine nest_any (pre := [_, _, _, _]) F3 N3 (by k_all) T' C2 rfl hT rfl ?_
  intro f1 c1 oc1 vs1 tt1 ct1 dc1 hh1 tk1 F4 N4 d1x d2x hc1 hc2 l1x l2x l3x
  (try simp only [List.cons_append, List.nil_append] at N4)
  k_lt l1x
  replace hc1 := neN hc1
  replace l2x := ltN l2x
  replace l3x := ltN l3x
  have hc3 : D ≠ c1 ∧ L' + 1 + 1 + 1 ≠ c1 ∧ L' + 1 + 1 ≠ c1 ∧ L' + 1 ≠ c1 ∧ (c1 = cA ∨ L' ≤ c1) := by
    rcases hc2 with rfl | hc2
    · exact ⟨by k_ne, by k_ne, by k_ne, by k_ne, .inl rfl⟩
    · k_lt hc2
      exact ⟨by k_ne, by k_ne, by k_ne, by k_ne, .inr (leN (by omega))⟩
  obtain ⟨z0, z1, z2, z3, z5⟩ := hc3
  clear hc2 F3 N3
  k_steps
  · rename (a ≠ 0) => a3x
    rename Fr _ _ _ _ => F5
    rename News _ _ _ _ => N5
    refine len_to N5 (by k_mem) List.length_replicate (by omega) ?_
    k_steps
    unfold Stop
    have hb1 := bits_pos a3x
    have hk1 : 1 ≤ (intBits a + n - 1) / n := Nat.div_pos (by omega) (by omega)
    refine useK (rest := [(30, _)]) (ct_i2d_inner w f1 c1 _ _ _ D _ _ on _ oc1 _ _ _ _ _ _ _ n d1x d2x (by assumption) d3 (by assumption) hn ⟨by k_ne, z0, by k_ne, by k_ne, by k_ne⟩ 64 0 ((intBits a + n - 1) / n) a _ _ _ _ _ hI (by rw [List.length_replicate]; exact hk) ha (by rw [Nat.sub_zero]; exact digit_count hn1 ha) (Nat.le_trans hb (by decide)) hk1 (by rw [List.length_replicate]; exact Nat.le_refl _) hk) B' F5 X' C1 C2 T' (news_p7' N5) (by walk_at "dis") rfl (rmD hdp (by decide)) (rmU hun (by decide)) trivial ?_
    intro N h' tk' hlt' F6 vals1 hI1 N6
    clear F5 N5
    (try simp only [List.cons_append, List.nil_append] at N6)
    k_steps
    (try dsimp only)
    rename Fr _ _ _ _ => F7
    rename News _ _ _ _ => N7
    refine leave hQ0 F7 (news_sub N7 (l' := [(D, _), (30, _), (c1, oc1)]) (by walk_at "sub")) fun _ k => k D vals1 0 _ _ _ (Nat.le_of_lt (by assumption)) ?_ (.inr ⟨rfl, hc1, _, _, d1x, d2x⟩) z5 z0
    rw [List.take_zero, List.nil_append, Nat.sub_zero, List.drop_of_length_le (by rw [List.length_replicate]; exact Nat.le_refl _), List.append_nil] at hI1
    exact hI1
  · rename (a = 0) => a3x
    rename Fr _ _ _ _ => F5
    rename News _ _ _ _ => N5
    subst a3x
    (try dsimp only)
    refine leave hQ0 F5 (news_sub N5 (l' := [(D, _), (30, _), (c1, oc1)]) (by walk_at "sub")) fun _ k => k D _ 0 _ _ _ (Nat.le_of_lt (by assumption)) ?_ (.inr ⟨rfl, hc1, _, _, d1x, d2x⟩) z5 z0
    rw [show (intBits (0 : Int) + n - 1) / n = 0 by rw [bits_zero]; exact Nat.div_eq_of_lt (by omega)]
    exact .nil
end

theorem bits_lower {b : Int} (hb : 0 < b) : 2 ^ (intBits b - 1) ≤ b := by
  have h1 := bits_pos (a := b) (by omega)
  have h2 : ¬ intBits b ≤ intBits b - 1 := by omega
  rw [intBits_le_iff] at h2
  have h3 : 2 ^ (intBits b - 1) ≤ b.natAbs := by omega
  have h4 : ((2 ^ (intBits b - 1) : Nat) : Int) ≤ ((b.natAbs : Nat) : Int) := by exact_mod_cast h3
  push_cast at h4
  omega
noncomputable abbrev TT (oA ocA oB ocB : Obj) (cA cB : Addr) : Led := [(30, oA), (cA, ocA), (37, oB), (cB, ocB)]
noncomputable abbrev TOKA (o : Obj) (c : Addr) (oc : Obj) : Prop := TOK 30 32 4 "_int2digits.<locals>.inner" o c oc
noncomputable abbrev TOKB (o : Obj) (c : Addr) (oc : Obj) : Prop := TOK 37 47 4 "_digits2int.<locals>.inner" o c oc
/-- what a call that reckons by digits leaves of the two tables -/
noncomputable def TTPost (cA cB : Addr) (N : Nat) (oA' ocA' oB' ocB' : Obj) (cA' cB' : Addr) : Prop := TOKA oA' cA' ocA' ∧ TOKB oB' cB' ocB' ∧ (cA' = cA ∨ N ≤ cA') ∧ (cB' = cB ∨ N ≤ cB') ∧ cA' ≠ cB'

section
local macro_rules | `(tactic| walk_at "call type:reversed") => `(tactic| walk_at "stop")
local macro_rules | `(tactic| walk_at "newList") => `(tactic| walk_at "stop")
local macro_rules | `(tactic| walk_at "newTuple") => `(tactic| walk_at "stop")
/-- what int_divmod gives back, the tables beside -/
noncomputable abbrev DMPost (cA cB : Addr) (x y : Int) := Imp fun N M => ∀ r t t' oA' ocA' oB' ocB' cA' cB', N ≤ r → TTPost cA cB N oA' ocA' oB' ocB' cA' cB' → r ≠ cA' → r ≠ cB' → M (.ref r) ((r, tup2 x y t t') :: TT oA' ocA' oB' ocB' cA' cB')
/-- the loop's word -/
noncomputable def DPInv (I qd lst : Addr) (T : Led) (a b : Int) (tb : Tok) (k : Nat) (j : Nat) (m : Str → Option Value) (news : Led) : Prop :=
  ∀ C : Prop, (∀ r qs qvals nq oI tr tn, AllLk m [("r", .int r tr), ("q_digits", .ref qd), ("n", .int (intBits b) tn), ("b", .int b tb)] →
      news = (I, oI) :: (qd, listOf qvals.toArray nq) :: T → RevO oI lst ((j : Int) - 1) → IntsAre qvals qs → qs.length + j = k → 0 ≤ r → r < b →
      dval (intBits b) qs.reverse * b + r = dval (intBits b) ((digs (intBits b) a k).drop j) → (∀ q ∈ qs, 0 ≤ q ∧ q < 2 ^ intBits b) → C) → C
theorem le64 {a b k : Nat} (h : a + b = k) (hk : k ≤ 64) : a ≤ 64 := by omega
theorem dp_end {a b r : Int} {qs : List Int} {k : Nat} (hb : 0 < b) (ha : 0 ≤ a) (hn1 : 1 ≤ intBits b) (hkk : (intBits a + intBits b - 1) / intBits b = k) (hr0 : 0 ≤ r) (hr1 : r < b)
    (hV : dval (intBits b) qs.reverse * b + r = dval (intBits b) ((digs (intBits b) a k).drop 0)) : a / b = dval (intBits b) qs.reverse ∧ a % b = r := by
  rw [List.drop_zero, dval_digs _ _ _ ha (by rw [← hkk]; exact digit_count hn1 ha)] at hV
  obtain ⟨v1, v2⟩ := div_mod_of hV hr0 hr1
  rw [fdiv_pos hb] at v1
  rw [fmod_pos hb] at v2
  exact ⟨v1, v2⟩
theorem ct_divmod_pos (w : World) (a b : Int) (ta tb : Tok) (oA ocA oB ocB : Obj) (cA cB : Addr) (hA : TOKA oA cA ocA) (hB : TOKB oB cB ocB) (hAB : cA ≠ cB) (hA37 : cA ≠ 37) (hB30 : cB ≠ 30)
    (ha : 0 ≤ a) (hab : intBits a ≤ 60000) (hb : 0 < b) (hbb : intBits b ≤ 7998) (hk : (intBits a + intBits b - 1) / intBits b ≤ 64) :
    Ct w 49 [.int a ta, .int b tb] (TT oA ocA oB ocB cA cB) (fun _ => True) 100 500
      (DMPost cA cB (a / b) (a % b)) := by
  refine ct_def (fr := [("b", .int b tb), ("a", .int a ta)]) (by with_unfolding_all rfl) (by with_unfolding_all rfl) (fun s => BindsTo.of_eq rfl) (locs rfl) rfl rfl rfl rfl (by decide) ?_
  intro p loose mean mg mb A dp un gd outer base g L' s h₁ hdp hun hpre hg F' N' hlt B' X' C1 C2 T' Q0 hQ0 A1 e1
  k_lt hlt
  replace hAB := neN hAB; replace hA37 := neN hA37; replace hB30 := neN hB30
  have hn1 := bits_pos (a := b) (by omega)
  k_steps
  unfold Stop
  refine useK (rest := [(37, oB), (cB, ocB)]) (ct_int2digits w a (intBits b) _ _ oA ocA cA hA hn1 (by omega) ha hab hk) B' (by k_asm) X' C1 C2 T' (by k_asm) (by walk_at "dis") rfl (rmD hdp (by first | decide | omega)) (rmU hun (by first | decide | omega)) trivial ?_
  intro N h' tk' hlt' F2 lst vals n0 oA' cA' ocA' hN hI hTA hcA hlc N2
  (try simp only [List.cons_append, List.nil_append] at N2 hlt')
  k_lt hlt'
  replace hN := leN hN
  replace hcA := orN hcA
  replace hlc := neN hlc
  clear hg hpre hA
  k_sweep
  k_steps
  unfold Stop
  refine newListM (by k_asm) (by k_asm) ?_
  intro qd hq1 Fq Nq lq1 lq2
  k_lt lq1
  k_lt2 lq2
  k_sweep
  k_steps
  unfold Stop
  refine wpAny_For ?_
  k_steps
  refine revCall (by k_asm) (by k_asm) (by k_mem) ?_
  intro I hh F2 N2 l1 l2
  k_lt l1
  k_lt2 l2
  k_sweep
  refine revIter N2 (by k_mem) ⟨rfl, rfl⟩ ?_
  have hlen : vals.length = (intBits a + intBits b - 1) / intBits b := by rw [hI.length, digs_length]
  have hbl := bits_lower hb
  have hbu := lt_of_bits (x := b) (Nat.le_refl _)
  generalize hkk : (intBits a + intBits b - 1) / intBits b = k at *
  refine forM (n₀ := k) (DPInv I qd lst [(lst, listOf vals.toArray n0), (30, oA'), (cA', ocA'), (37, oB), (cB, ocB)] a b tb k)
    F2 N2 (fun _ k => k 0 [] [] 0 _ _ _ (allLk rfl) rfl ⟨rfl, by rw [hlen]; rfl⟩ .nil (Nat.zero_add _) (Int.le_refl _) hb (by rw [List.drop_of_length_le (by rw [digs_length]; exact Nat.le_refl _)]; exact (Int.add_zero _).trans (Int.zero_mul _)) (fun _ h => nomatch h)) ?_
  clear F2 N2
  intro j m₁ news₁ h₁ tk₁ F1 N1 hJ
  refine hJ _ ?_
  clear hJ
  rintro r qs qvals nq oI tr tn hm rfl hR hq hj hr0 hr1 hV hqb Q1 hQ1
  replace F1 := frOv F1 hm
  clear hm
  cases j with
  | zero =>
    refine revDone (own := []) rfl F1 N1 (fun _ h => nomatch h) (by k_all) hR ?_
    intro h' F2 N2
    clear F1 N1
    (try simp only [List.nil_append] at N2)
    have hqr := ints_rev hq
    have hql : qs.length ≤ 64 := le64 hj hk
    k_steps
    refine kl_reverse (l := qvals.reverse) F2 N2 rfl (by k_upd) (by show qvals.length ≤ _; rw [hq.length, sizeLine_eq]; exact Nat.le_trans hql (by decide)) ?_
    intro h2 F3 N3
    k_sweep
    k_steps
    unfold Stop
    replace N3 := news_sub (l' := [(37, oB), (cB, ocB), (qd, _), (30, oA'), (cA', ocA')]) N3 (by walk_at "sub")
    have e37 : cA' ≠ 37 ∧ cA' ≠ cB := by rcases hcA with rfl | h <;> exact ⟨neN (by omega), neN (by omega)⟩
    obtain ⟨e1, e2⟩ := e37
    replace e1 := neN e1; replace e2 := neN e2
    refine useK (rest := [(qd, _), (30, oA'), (cA', ocA')]) (ct_digits2int w qd (intBits b) _ oB ocB cB qvals.reverse qs.reverse hB hqr (fun d hd => bits_of_lt (hqb d (List.mem_reverse.mp hd)).1 (hqb d (List.mem_reverse.mp hd)).2 (Nat.le_trans hbb (by decide))) (Nat.le_trans hbb (by decide)) (by rw [List.length_reverse]; exact hql) (by k_ne) (by k_ne)) B' F3 X' C1 C2 T' N3 (by walk_at "dis") rfl (rmD hdp (by decide)) (rmU hun (by decide)) (PySem.IsL.isList (n := nq) (N3 (qd, listOf qvals.reverse.toArray nq) (by k_mem)).1) ?_
    intro N4 h4 tk4 hlt4 F4 oB' cB' ocB' t4 hTB hcB N4'
    (try simp only [List.cons_append, List.nil_append] at N4' hlt4)
    k_lt hlt4
    replace hcB := orN hcB
    k_sweep
    k_steps
    unfold Stop
    refine newTupleM (by k_asm) (by k_asm) ?_
    intro rr h6 F5 N5 l5 l6
    k_lt l5
    k_lt2 l6
    k_sweep
    k_steps
    (try dsimp only)
    obtain ⟨v1, v2⟩ := dp_end hb ha hn1 hkk hr0 hr1 hV
    rw [v1, v2] at hQ0
    refine leave hQ0 F5 (news_sub N5 (l' := (rr, _) :: TT oA' ocA' oB' ocB' cA' cB') (by walk_at "sub")) fun _ k => k rr _ _ oA' ocA' oB' ocB' cA' cB' (Nat.le_of_lt l6) ⟨hTA, hTB, ?_, ?_, ?_⟩ (by k_ne) (by k_ne)
    · exact hcA.imp id fun h => Nat.le_trans (Nat.le_of_lt (by assumption)) h
    · exact hcB.imp id fun h => Nat.le_trans (Nat.le_of_lt (by assumption)) h
    · rcases hcB with rfl | h
      · exact e2
      · refine neN ?_; omega
  | succ i =>
    have hi : i < (digs (intBits b) a k).length := by rw [digs_length, ← hj]; omega
    obtain ⟨tv, hv⟩ := intsAre_get hI (i := i) hi
    refine revNext F1 N1 (by k_mem) (by k_updF) (by simpa using hR) hv ?_
    intro h' o' F2 N2 hR2
    clear F1 N1
    (try dsimp only at N2)
    refine letName ?_
    have hrb : intBits r ≤ 7998 := bits_of_lt hr0 (Int.lt_trans hr1 hbu) hbb
    have hdg := digs_bound (intBits b) k a _ (List.getElem_mem hi)
    obtain ⟨u1, u2⟩ := horner_lt hb hr0 hr1 hdg.1 hdg.2
    generalize hdd : (digs (intBits b) a k)[i] = d at *
    k_steps
    unfold Stop
    refine useP (ct_div2n1n w _ b (intBits b) _ _ _ hn1 hbb hbl hbu u1 u2) B' (by k_asm) X' C1 C2 T' (by k_asm) rfl (rmD hdp (by decide)) (rmU hun (by decide)) trivial ?_
    intro x t5 t6 h'' tk' hlt'' F3 N3
    have hxq := neN (Nat.ne_of_lt (hlt'' (qd, _) (.tail _ (.tail _ (.head _)))))
    clear hlt''
    k_sweep
    k_steps
    rename Fr _ _ _ _ => F4
    rename News _ _ _ _ => N4
    rw [fdiv_pos hb, fmod_pos hb] at F4 N4
    refine hQ1 _ _ (FStep.intro (n' := i) F4 (news_sub N4 (l' := [(I, o'), (qd, _), (lst, _), (30, oA'), (cA', ocA'), (37, oB), (cB, ocB)]) (by walk_at "sub")) (Nat.lt_succ_self _) fun _ k => k _ (qs ++ [(r * 2 ^ intBits b + d) / b]) (qvals ++ [.int ((r * 2 ^ intBits b + d) / b) t5]) (nq + 1) o' _ _ (allLk rfl) ?_ hR2 (ints_app hq (.cons _ _ .nil)) ?_ (Int.emod_nonneg _ (Int.ne_of_gt hb)) (Int.emod_lt_of_pos _ hb) ?_ ?_)
    · rw [List.push_toArray]; rfl
    · rw [List.length_append, List.length_singleton, Nat.add_assoc, Nat.add_comm 1]; exact hj
    · rw [List.reverse_append, drop_step hi, hdd]
      exact horner_step hb hV
    · intro q hq'
      rcases List.mem_append.mp hq' with h | h
      · exact hqb q h
      · rw [List.mem_singleton.mp h]
        exact ⟨Int.ediv_nonneg u1 (Int.le_of_lt hb), Int.ediv_lt_of_lt_mul hb u2⟩
end

theorem DMPost.mono {cA cB : Addr} {x y : Int} {L N : Nat} {v : Value} {foot' : Led} (hL : L ≤ N) (h : DMPost cA cB x y N v foot') : DMPost cA cB x y L v foot' := fun _ k => h _ fun r t t' oA' ocA' oB' ocB' cA' cB' e2 ⟨a1, a2, a3, a4, a5⟩ e5 e6 =>
  k r t t' oA' ocA' oB' ocB' cA' cB' (Nat.le_trans hL e2) ⟨a1, a2, a3.imp id (Nat.le_trans hL), a4.imp id (Nat.le_trans hL), a5⟩ e5 e6
theorem ct_int_divmod (w : World) (a b : Int) (ta tb : Tok) (oA ocA oB ocB : Obj) (cA cB : Addr) (hA : TOKA oA cA ocA) (hB : TOKB oB cB ocB) (hAB : cA ≠ cB) (hA37 : cA ≠ 37) (hB30 : cB ≠ 30)
    (ha : 0 ≤ a) (hab : intBits a ≤ 60000) (hb : 0 < b) (hbb : intBits b ≤ 7998) (hk : (intBits a + intBits b - 1) / intBits b ≤ 64) :
    Ct w 56 [.int a ta, .int b tb] (TT oA ocA oB ocB cA cB) (fun _ => True) 110 600 (DMPost cA cB (a / b) (a % b)) := by
  have hb0 : b ≠ 0 := Int.ne_of_gt hb
  refine ct_def (fr := [("b", .int b tb), ("a", .int a ta)]) (by with_unfolding_all rfl) (by with_unfolding_all rfl) (fun s => BindsTo.of_eq rfl) (locs rfl) rfl rfl rfl rfl (by decide) ?_
  intro p loose mean mg mb A dp un gd outer base g L' s h₁ hdp hun hpre hg F' N' hlt B' X' C1 C2 T' Q0 hQ0 A1 e1
  clear hpre hg hlt
  k_steps
  · exact absurd (by assumption) hb0
  refine use1 (rest := []) (ct_divmod_pos w a b _ _ oA ocA oB ocB cA cB hA hB hAB hA37 hB30 ha hab hb hbb hk) B' (by k_asm) X' C1 C2 T' (by rw [List.append_nil]; k_asm) (fun _ _ _ h => nomatch h) rfl (rmD hdp (by decide)) (rmU hun (by decide)) trivial ?_
  intro N v foot' h' tk' hlt' hpost F2 N2
  rw [List.append_nil] at N2
  k_steps
  exact leave hQ0 F2 N2 (hpost.mono (Nat.le_of_lt (hlt' _ (.head _))))

theorem TTPost.mono {cA cB : Addr} {L N : Nat} {oA ocA oB ocB : Obj} {c1 c2 : Addr} (h : TTPost cA cB N oA ocA oB ocB c1 c2) (hL : L ≤ N) : TTPost cA cB L oA ocA oB ocB c1 c2 := ⟨h.1, h.2.1, h.2.2.1.imp id (Nat.le_trans hL), h.2.2.2.1.imp id (Nat.le_trans hL), h.2.2.2.2⟩
section
local macro_rules | `(tactic| walk_at "newTuple") => `(tactic| walk_at "stop")
theorem neg_neg' {a x : Int} (h : x = -a) : -x = a := by rw [h, Int.neg_neg]
/-- both turned -/
theorem ct_int_divmod_neg (w : World) (a b x y : Int) (ta tb : Tok) (oA ocA oB ocB : Obj) (cA cB : Addr) (hA : TOKA oA cA ocA) (hB : TOKB oB cB ocB) (hAB : cA ≠ cB) (hA37 : cA ≠ 37) (hB30 : cB ≠ 30)
    (ha : 0 ≤ a) (hab : intBits a ≤ 60000) (hb : 0 < b) (hbb : intBits b ≤ 7998) (hk : (intBits a + intBits b - 1) / intBits b ≤ 64) (hx : x = -a) (hy : y = -b) :
    Ct w 56 [.int x ta, .int y tb] (TT oA ocA oB ocB cA cB) (fun _ => True) 120 700 (DMPost cA cB (a / b) (-(a % b))) := by
  have hy0 : y ≠ 0 := by omega
  have hy1 : y < 0 := by omega
  refine ct_def (fr := [("b", .int y tb), ("a", .int x ta)]) (by with_unfolding_all rfl) (by with_unfolding_all rfl) (fun s => BindsTo.of_eq rfl) (locs rfl) rfl rfl rfl rfl (by decide) ?_
  intro p loose mean mg mb A dp un gd outer base g L' s h₁ hdp hun hpre hg F' N' hlt B' X' C1 C2 T' Q0 hQ0 A1 e1
  clear hpre hg hlt
  have h1 := neg_neg' hx
  have h2 := neg_neg' hy
  k_steps
  · exact absurd (by assumption) hy0
  unfold Stop
  rw [h1, h2]
  refine useK0 (ct_int_divmod w a b _ _ oA ocA oB ocB cA cB hA hB hAB hA37 hB30 ha hab hb hbb hk) B' (by k_asm) X' C1 C2 T' (by k_asm) rfl (rmD hdp (by decide)) (rmU hun (by decide)) trivial ?_
  intro N h' tk' hlt' F2 r t t' oA' ocA' oB' ocB' cA' cB' e2 e4 e5 e6 N2
  have hL : L' ≤ N := Nat.le_of_lt (hlt' _ (.head _))
  clear hlt'
  k_sweep
  k_steps
  unfold Stop
  refine newTupleM (by k_asm) (by k_asm) ?_
  intro rr h6 F5 N5 l5 l6
  k_lt l5
  k_lt2 l6
  k_sweep
  k_steps
  (try dsimp only)
  exact leave hQ0 F5 (news_sub N5 (l' := (rr, _) :: TT oA' ocA' oB' ocB' cA' cB') (by walk_at "sub")) fun _ k => k rr _ _ oA' ocA' oB' ocB' cA' cB' (Nat.le_of_lt l6) (e4.mono hL) (by k_ne) (by k_ne)
end

section
open AutoSeq1 (wpAny_loadPart')
/-- enumerate over a tuple -/
theorem meets_enumT (l : Addr) (items : Array Value) (n : Nat) (dct : Option Addr) (sl : Array (Option Value)) :
    Meets (Builtin.«enumerate.__new__» ⟨[.type "enumerate", .ref l], []⟩) (fun _ R s => s.heap.get? l = some { cls := .type "tuple", dict := dct, data := .seq items n, slots := sl } ∧
      R (.ok (.ret (.ref (s.heap.push { cls := .type "tuple_iterator", data := .fields #[.ref l, .int 0 0] }).objs.size)))
        { s with heap := (s.heap.push { cls := .type "tuple_iterator", data := .fields #[.ref l, .int 0 0] }).push { cls := .type "enumerate", data := .fields #[.none, .bool false, .ref s.heap.objs.size, rawInt 0, .none, .none] } }) :=
  .of_wp fun prog w A R s h => by
    obtain ⟨hp, g, d, tk, os⟩ := s; obtain ⟨hl, h⟩ := h
    have hsub := sub_enumerate
    have hL : Heap.IsTuple (Shared.heap ⟨hp, g, d, tk, os⟩) l items := ⟨_, hl, rfl, n, rfl⟩
    wp_walk using wpAny_loadPart' hl
    refine wpAny_stack_any fun st => wpAny_pure ?_
    split
    · rename_i c _ _ _ _ _
      cases (c == Value.type "enumerate")
      · wp_walk using wpAny_loadPart' hl, wpAny_pyIter_tuple hL
        exact ⟨_, rfl, h⟩
      · wp_walk using wpAny_loadPart' hl, wpAny_pyIter_tuple hL
        exact ⟨_, rfl, h⟩
    · wp_walk using wpAny_loadPart' hl, wpAny_pyIter_tuple hL
      exact ⟨_, rfl, h⟩
end
noncomputable abbrev enumO (it : Addr) (i : Int) (old : Value) : Obj := { cls := .type "enumerate", data := .fields #[.none, .bool false, .ref it, rawInt i, .none, old] }
noncomputable abbrev tupItO (t : Addr) (i : Nat) : Obj := { cls := .type "tuple_iterator", data := .fields #[.ref t, .int i 0] }
section
variable {prog : Program} {w : World} {A : Around} {E : Value → Shared → Prop} {s : Shared} {h₀ : Heap} {L : Addr} {m : Str → Option Value} {news : Led}
theorem enumCall {l : Addr} {items : Array Value} {Q : Value → Shared → Prop} (Fm : Fr h₀ L s.heap m) (N : News h₀ L s.heap news) (hL : s.heap.IsTuple l items)
    (h : ∀ e it h', Fr h₀ L h' m → News h₀ L h' ((e, enumO it 0 .none) :: (it, tupItO l 0) :: news) → (∀ p ∈ news, p.1 < it) → L < it → it < e → Q (.ref e) { s with heap := h' }) :
    wpAny (model prog w) A (call (.type "enumerate") [.ref l]) Q E s := by
  obtain ⟨⟨c, dct, dt, sl⟩, hl, hc, n, hd⟩ := hL
  replace hc : c = .type "tuple" := hc
  replace hd : dt = .seq items n := hd
  subst hc hd
  refine callType_new PySem.F.called_enumerate (by decide) (PySem.F.typeCall_enumerate_1 _) (PySem.F.newCall_enumerate_1 _) (fun obj => PySem.F.args_object_init_2 obj _) PySem.F.entry_enumerate_new
    (meets_enumT l items n dct sl) ⟨hl, ?_⟩
  have F1 := Fm.push (tupItO l 0)
  have N1 := N.push Fm (tupItO l 0)
  have F2 := F1.push (enumO s.heap.objs.size 0 .none)
  have N2 := N1.push F1 (enumO s.heap.objs.size 0 .none)
  exact ⟨⟨_, (N2 _ (.head _)).1, rfl⟩, h _ _ _ F2 N2 (fun p hp => Heap.lt_size (N p hp).1) Fm.ns.lt (by rw [Heap.size_push]; exact Nat.lt_succ_self _)⟩
theorem tupNextItem {it t : Addr} {i : Nat} {items : Array Value} {x : Value} {Q : Value → Shared → Prop} (hit : s.heap.IsTupleIter it t i) (ht : s.heap.IsTuple t items) (hx : items[i]? = some x)
    (hQ : ∀ h', h'.IsTupleIter it t (i + 1) → Heap.SameBut it s.heap h' → Q x { s with heap := h' }) : wpAny (model prog w) A (Builtin.SmallTypes.nextOf (.ref it)) Q E s := by
  obtain ⟨o, ho, hc, hd⟩ := id hit
  obtain ⟨ol, hol, _, nl, hdl⟩ := ht
  unfold Builtin.SmallTypes.nextOf
  refine wpAny_bind (wpAny_callSpecial?_slot (name := Str.ofString "__next__") hit.typeIs PySem.F.slot_tuple_iterator_next
    (wpAny_call_entry PySem.F.slot_tuple_iterator_next hit.typeIs PySem.F.entry_tuple_iterator_next ?_ (PySem.F.args_tuple_iterator_next_1 _)))
  show wpAny _ _ (field (.ref it) 0 >>= _) _ _ s
  refine wpAny_bind (wpAny_field ho hd (x := .ref t) rfl ?_)
  show wpAny _ _ (if (Value.ref t == Value.none) = true then _ else _) _ _ s
  rw [if_neg (show ¬ ((Value.ref t == Value.none) = true) from Bool.false_ne_true)]
  show wpAny _ _ (field (.ref it) 1 >>= _) _ _ s
  refine wpAny_bind (wpAny_field ho hd (x := .int i 0) rfl ?_)
  show wpAny _ _ (seqItems? (.ref t) >>= _) _ _ s
  refine wpAny_bind (wpAny_seqItems hol hdl ?_)
  simp only [Int.toNat_natCast, hx]
  refine wpAny_bind (wpAny_setField ho hd (by simp) (wpAny_pure ⟨x, rfl, wpAny_pure (hQ _ ?_ (Heap.SameBut.update ..))⟩))
  exact ⟨_, Heap.get?_update_self _ ho (Obj.isFreed_of_fields (Obj.data_mapFields hd _)), (Obj.cls_mapFields ..).trans hc, by
    rw [Obj.data_mapFields hd]; simp [rawInt]⟩
theorem tupNextEnd {it t : Addr} {i : Nat} {items : Array Value} {Q : Value → Shared → Prop} (hh : A.handled = none) (hit : s.heap.IsTupleIter it t i) (ht : s.heap.IsTuple t items) (hx : items[i]? = none)
    (hE : ∀ h' e, Heap.ExtBut it s.heap h' → (∃ o, h'.get? e = some o ∧ o.cls = .type "StopIteration") → E (.ref e) { s with heap := h' }) :
    wpAny (model prog w) A (Builtin.SmallTypes.nextOf (.ref it)) Q E s := by
  obtain ⟨o, ho, hc, hd⟩ := id hit
  obtain ⟨ol, hol, _, nl, hdl⟩ := ht
  unfold Builtin.SmallTypes.nextOf
  refine wpAny_bind (wpAny_callSpecial?_slot (name := Str.ofString "__next__") hit.typeIs PySem.F.slot_tuple_iterator_next
    (wpAny_call_entry PySem.F.slot_tuple_iterator_next hit.typeIs PySem.F.entry_tuple_iterator_next ?_ (PySem.F.args_tuple_iterator_next_1 _)))
  show wpAny _ _ (field (.ref it) 0 >>= _) _ _ s
  refine wpAny_bind (wpAny_field ho hd (x := .ref t) rfl ?_)
  show wpAny _ _ (if (Value.ref t == Value.none) = true then _ else _) _ _ s
  rw [if_neg (show ¬ ((Value.ref t == Value.none) = true) from Bool.false_ne_true)]
  show wpAny _ _ (field (.ref it) 1 >>= _) _ _ s
  refine wpAny_bind (wpAny_field ho hd (x := .int i 0) rfl ?_)
  show wpAny _ _ (seqItems? (.ref t) >>= _) _ _ s
  refine wpAny_bind (wpAny_seqItems hol hdl ?_)
  simp only [Int.toNat_natCast, hx]
  refine wpAny_bind (wpAny_rule (wpAny_bind (wpAny_setField ho hd (by simp) ?_)))
  show wpAny _ _ (newExc (.type "StopIteration") [] >>= _) _ _ _
  refine wpAny_bind ?_
  simp only [newExc, newTuple]
  refine wpAny_bind (wpAny_newObj_type ?_ (by size_fits))
  refine wpAny_bind (m := firstArgMember _ _) (wpAny_of_eq (a := Value.none) (by first | rfl | (simp only [firstArgMember]; rfl)) ?_)
  refine wpAny_newObj_type ?_ (by size_fits)
  simp only [raiseNew]
  refine wpAny_bind (wpAny_handled ?_)
  first | rw [show A.in1.handled = none from hh] | rw [hh]
  refine wpAny_bind (wpAny_pure (wpAny_throw ?_))
  exact hE _ _ (((Heap.SameBut.update ..).extBut.push _).push _) ⟨_, Heap.get?_push_size _ rfl, rfl⟩
end
theorem itAt {h h' : Heap} {a t : Addr} {i : Nat} (x : h.IsTupleIter a t i) (e : ∀ o, h.get? a = some o → h'.get? a = some o) : h'.IsTupleIter a t i := let ⟨o, ho, r⟩ := x; ⟨o, e _ ho, r⟩
theorem tupAt {h h' : Heap} {a : Addr} {its : Array Value} (x : h.IsTuple a its) (e : ∀ o, h.get? a = some o → h'.get? a = some o) : h'.IsTuple a its := let ⟨o, ho, r⟩ := x; ⟨o, e _ ho, r⟩
theorem drawsTup {prog : Program} {w : World} {A : Around} (hh : A.handled = none) (it l : Addr) (hne : l ≠ it) (items : Array Value) :
    Draws prog w A it [it, l] items.size (fun i v => items[i]? = some v) (fun i h => h.IsTupleIter it l i ∧ h.IsTuple l items) where
  live := fun _ _ st => let ⟨o, ho, _⟩ := st.1; ⟨o, ho⟩
  frame := fun _ _ _ st hk => ⟨itAt st.1 fun o e => hk it (by simp) o e, tupAt st.2 fun o e => hk l (by simp) o e⟩
  item := fun i s Q E hi st hQ => by
    refine tupNextItem st.1 st.2 (x := items[i]) (by simp [hi]) fun h' hit' hs' => ?_
    exact hQ _ h' s.toks (by simp [hi]) ⟨hit', st.2.extBut hs'.extBut hne⟩ hs'
  done := fun s Q E st hE => tupNextEnd hh st.1 st.2 (by simp) hE
noncomputable def TIt (o : Obj) (t : Addr) (i : Nat) : Prop := o.cls = .type "tuple_iterator" ∧ o.data = .fields #[.ref t, .int i 0]
noncomputable abbrev tupO (vs : List Value) : Obj := { cls := .type "tuple", data := .seq vs.toArray }
section
variable {prog : Program} {w : World} {A : Around} {E E' : Value → Shared → Prop} {s : Shared} {h₀ : Heap} {L : Addr} {m : Str → Option Value} {news : Led}
/-- one turn of enumerate over a tuple: the next, and its tuple let go -/
theorem enumTurn {e it l : Addr} {i : Nat} {items : Array Value} {x old : Value} {oIt : Obj} {elts : List PySem.Expr} {k : Nat} {pos : Pos} {X : Shared → Prop} {Y : Value → Shared → Prop} (hh : A.handled = none)
    (F : Fr h₀ L s.heap m) (N : News h₀ L s.heap ((e, enumO it i old) :: (it, oIt) :: news)) (ho : TIt oIt l i) (hL : s.heap.IsTuple l items) (hx : items[i]? = some x) (h1 : e ≠ it) (h2 : l ≠ it) (h2' : l ≠ e) (h3 : ∀ p ∈ news, p.1 ≠ e) (h4 : ∀ p ∈ news, p.1 ≠ it)
    (h : ∀ T tk oIt' h', Fr h₀ L h' m → News h₀ L h' ((T, tupO [.int i tk, x]) :: (e, enumO it ((i : Int) + 1) x) :: (it, oIt') :: news) → TIt oIt' l (i + 1) → (∀ p ∈ (e, enumO it i old) :: (it, oIt) :: news, p.1 < T) → L < T → Y (.ref T) { s with heap := h', toks := tk + 1 }) :
    wpAny (model prog w) A (pyNext (.ref e)) (fun r s₁ => match r with
      | none => X s₁
      | some v => wpAny (model prog w) A (letOwnedTupleGo (.Tuple elts k pos) (.ref e) v) (fun _ s₂ => Y v s₂) E' s₁) E s := by
  have ze := N _ (.head _)
  have zi := N _ (.tail _ (.head _))
  have hi : i < items.size := by
    rcases Nat.lt_or_ge i items.size with h | h
    · exact h
    · rw [Array.getElem?_eq_none h] at hx; cases hx
  refine wpAny_pyNext_enum_itemD (drawsTup (A := A.in1) hh it l h2 items) ze.1 ⟨⟨_, zi.1, ho.1, ho.2⟩, hL⟩ hi h1 (by simp [h1, Ne.symm h2']) ?_
  intro x' h' tk hP hE hS hT hsz hk
  have ex : x' = x := by rw [hx] at hP; exact (Option.some.inj hP).symm
  subst ex
  refine wpAny_letOwnedTupleGo_enum hE fun h'' hE' hs => ?_
  obtain ⟨⟨oIt', ho1, ho2, ho3⟩, _⟩ := hS
  have lt : ∀ p ∈ (e, enumO it i old) :: (it, oIt) :: news, p.1 < s.heap.objs.size := fun p hp => Heap.lt_size (N p hp).1
  have hTe : s.heap.objs.size ≠ e := Nat.ne_of_gt (lt _ (.head _))
  have hLT := F.ns.lt
  have keep : ∀ b o, b ≠ e → b ≠ it → s.heap.get? b = some o → h''.get? b = some o := fun b o a1 a2 a3 => (hs.2 b a1).trans (hk b o a1 a2 a3)
  have ne0 : ∀ b o, h₀.get? b = some o → b ≠ e ∧ b ≠ it := fun b o q => ⟨fun z => (by rw [z, ze.2.2] at q; cases q), fun z => (by rw [z, zi.2.2] at q; cases q)⟩
  obtain ⟨oL, es, ep, hLo, r⟩ := F.ns
  refine h _ tk oIt' h'' ⟨⟨oL, es, ep, keep _ _ (Ne.symm ze.2.1) (Ne.symm zi.2.1) hLo, r⟩, fun b o q => keep b o (ne0 b o q).1 (ne0 b o q).2 (F.keep b o q), F.above⟩ (fun p hp => ?_) ⟨ho2, ho3⟩ lt hLT
  have fresh : h₀.get? s.heap.objs.size = none := Heap.get?_none_of_le (Nat.le_trans F.above (Nat.le_of_lt hLT))
  rcases List.mem_cons.mp hp with rfl | hp
  · exact ⟨(hs.2 _ hTe).trans hT, Nat.ne_of_gt hLT, fresh⟩
  · rcases List.mem_cons.mp hp with rfl | hp
    · exact ⟨hE', ze.2⟩
    · rcases List.mem_cons.mp hp with rfl | hp
      · exact ⟨(hs.2 _ (Ne.symm h1)).trans ho1, zi.2⟩
      · exact ⟨keep _ _ (h3 p hp) (h4 p hp) (N p (.tail _ (.tail _ hp))).1, (N p (.tail _ (.tail _ hp))).2⟩
theorem enumEnd {e it l : Addr} {i : Int} {n : Nat} {items : Array Value} {old : Value} {oIt : Obj} {X : Shared → Prop} {Y : Value → Shared → Prop} (hh : A.handled = none)
    (F : Fr h₀ L s.heap m) (N : News h₀ L s.heap ((e, enumO it i old) :: (it, oIt) :: news)) (ho : TIt oIt l n) (hn : n = items.size) (hL : s.heap.IsTuple l items) (h2 : l ≠ it) (h4 : ∀ p ∈ news, p.1 ≠ it)
    (h : ∀ h', Fr h₀ L h' m → News h₀ L h' news → X { s with heap := h' }) :
    wpAny (model prog w) A (pyNext (.ref e)) (fun r s₁ => match r with
      | none => X s₁
      | some v => Y v s₁) E s := by
  have ze := N _ (.head _)
  have zi := N _ (.tail _ (.head _))
  subst hn
  refine wpAny_pyNext_enum_endD (drawsTup (A := A.in1) hh it l h2 items) ze.1 ⟨⟨_, zi.1, ho.1, ho.2⟩, hL⟩ fun h' hx => ?_
  refine h h' ⟨F.ns.extBut hx (Ne.symm zi.2.1), fun b ob q => hx b ob (fun z => by rw [z, zi.2.2] at q; cases q) (F.keep b ob q), F.above⟩ fun p hp => ?_
  have P := N p (.tail _ (.tail _ hp))
  exact ⟨hx _ _ (h4 p hp) P.1, P.2⟩
theorem tupIter {t : Addr} {items : Array Value} {Q : Value → Shared → Prop} (F : Fr h₀ L s.heap m) (N : News h₀ L s.heap news) (ht : s.heap.IsTuple t items)
    (h : ∀ I h', Fr h₀ L h' m → News h₀ L h' ((I, tupItO t 0) :: news) → (∀ p ∈ news, p.1 < I) → L < I → Q (.ref I) { s with heap := h' }) : wpAny (model prog w) A (pyIter (.ref t)) Q E s :=
  wpAny_pyIter_tuple ht (h _ _ (F.push _) (N.push F _) (fun p hp => Heap.lt_size (N p hp).1) F.ns.lt)
theorem tupNext {I t : Addr} {i : Nat} {items : Array Value} {x : Value} {o : Obj} {Q : Option Value → Shared → Prop} (F : Fr h₀ L s.heap m) (N : News h₀ L s.heap ((I, o) :: news)) (ho : TIt o t i) (ht : s.heap.IsTuple t items) (hx : items[i]? = some x) (h3 : ∀ p ∈ news, p.1 ≠ I)
    (h : ∀ o' h', Fr h₀ L h' m → News h₀ L h' ((I, o') :: news) → TIt o' t (i + 1) → Q (some x) { s with heap := h' }) : wpAny (model prog w) A (pyNext (.ref I)) Q E s := by
  have z := N _ (.head _)
  refine wpAny_pyNext_tuple_item ⟨_, z.1, ho.1, ho.2⟩ ht hx fun h' hit hs => ?_
  obtain ⟨o', ho', hc, hd⟩ := hit
  exact h o' h' (frBut F z hs) (N.setAt (own := []) (fun _ h => nomatch h) h3 hs ho') ⟨hc, hd⟩
theorem tupDone {I t : Addr} {i : Nat} {items : Array Value} {o : Obj} {Q : Option Value → Shared → Prop} (hh : A.handled = none) (F : Fr h₀ L s.heap m) (N : News h₀ L s.heap ((I, o) :: news)) (ho : TIt o t i) (ht : s.heap.IsTuple t items) (hx : items[i]? = none) (h3 : ∀ p ∈ news, p.1 ≠ I)
    (h : ∀ h', Fr h₀ L h' m → News h₀ L h' news → Q none { s with heap := h' }) : wpAny (model prog w) A (pyNext (.ref I)) Q E s := by
  have z := N _ (.head _)
  refine wpAny_pyNext_tuple_end hh ⟨_, z.1, ho.1, ho.2⟩ ht hx fun h' hx' => ?_
  refine h h' ⟨F.ns.extBut hx' (Ne.symm z.2.1), fun b ob q => hx' b ob (fun y => by rw [y, z.2.2] at q; cases q) (F.keep b ob q), F.above⟩ fun p hp => ?_
  have P := N p (.tail _ hp)
  exact ⟨hx' _ _ (h3 p hp) P.1, P.2⟩
end
theorem letTupIt {prog : Program} {w : World} {A : Around} {E : Value → Shared → Prop} {s : Shared} {elts : List PySem.Expr} {k : Nat} {pos : Pos} {I l T : Addr} {i : Nat} {o : Obj} {h₀ : Heap} {L : Addr} {news : Led} {Q : Unit → Shared → Prop}
    (N : News h₀ L s.heap news) (hm : (I, o) ∈ news) (ho : TIt o l i) (hQ : Q () s) : wpAny (model prog w) A (letOwnedTupleGo (.Tuple elts k pos) (.ref I) (.ref T)) Q E s := by
  unfold letOwnedTupleGo
  refine wpAny_bind (wpAny_load (N _ hm).1 ?_)
  show wpAny _ A (match o.cls, o.data with | _, _ => _) Q E s
  rw [ho.1, ho.2]
  show wpAny _ A (if (["enumerate", "zip", "dict_itemiterator", "dict_reverseitemiterator", "odict_iterator", "itertools.zip_longest", "itertools.pairwise"].contains "tuple_iterator" &&
      (#[.ref l, .int i 0] : Array Value)[0]? == some (rawInt T)) = true then _ else _) Q E s
  rw [if_neg (by
    intro h
    rw [show (["enumerate", "zip", "dict_itemiterator", "dict_reverseitemiterator", "odict_iterator", "itertools.zip_longest", "itertools.pairwise"].contains "tuple_iterator") = false from by decide, Bool.false_and] at h
    cases h)]
  exact wpAny_pure hQ
/-- a joining place: the frame by its names, and the ledger -/
noncomputable def MidL (g : Heap) (L' : Addr) (s : Shared) (P : (Str → Option Value) → Led → Prop) (f : Flow) (s' : Shared) : Prop := f = .next ∧ ∃ h tk m news, s' = { s with heap := h, toks := tk } ∧ Fr g L' h m ∧ News g L' h news ∧ P m news

/-- the table: its rows' and pairs' places, the bits, the signs -/
noncomputable def fmRows : List (Addr × List (Addr × Int × Str)) :=
  [(92, [(85, 40960, "l"), (86, 49152, "s"), (87, 32768, "-"), (88, 24576, "b"), (89, 16384, "d"), (90, 8192, "c"), (91, 4096, "p")]), (94, [(93, 256, "r")]), (96, [(95, 128, "w")]),
   (100, [(97, 2112, "s"), (98, 2048, "S"), (99, 64, "x")]), (102, [(101, 32, "r")]), (104, [(103, 16, "w")]), (108, [(105, 1032, "s"), (106, 1024, "S"), (107, 8, "x")]), (110, [(109, 4, "r")]), (112, [(111, 2, "w")]),
   (116, [(113, 513, "t"), (114, 512, "T"), (115, 1, "x")])]
/-- where the table stands -/
noncomputable def PairAt (h : Heap) (q : Addr × Int × Str) : Prop := ∃ t t', h.IsTuple q.1 #[.int q.2.1 t, .str q.2.2 t']
noncomputable def RowAt (h : Heap) (r : Addr × List (Addr × Int × Str)) : Prop := h.IsTuple r.1 (r.2.map fun q => Value.ref q.1).toArray ∧ ∀ q ∈ r.2, PairAt h q
theorem isTup_of {K : Frag} {h : Heap} {a : Addr} {vs : Array Value} {n : Nat} (X : K.In h) (e : K.lookup a = some { cls := .type "tuple", data := .seq vs n }) : h.IsTuple a vs := ⟨_, X _ _ e, rfl, n, rfl⟩
theorem fm_at {w : World} {h : Heap} (X : (hd.heap_1 w.params).In h) : h.IsTuple 117 (fmRows.map fun r => Value.ref r.1).toArray ∧ ∀ r ∈ fmRows, RowAt h r := by
  refine ⟨isTup_of X (by with_unfolding_all rfl), ?_⟩
  simp only [fmRows, List.forall_mem_cons, RowAt, PairAt, List.not_mem_nil, false_implies, implies_true, and_true]
  refine ⟨?_, ?_, ?_, ?_, ?_, ?_, ?_, ?_, ?_, ?_⟩
  all_goals refine ⟨isTup_of X (by with_unfolding_all rfl), ?_⟩
  all_goals repeat' (first | exact ⟨_, _, isTup_of X (by with_unfolding_all rfl)⟩ | refine ⟨⟨_, _, isTup_of X (by with_unfolding_all rfl)⟩, ?_⟩)
/-- what stands for a row of the table -/
noncomputable def pickC (i : Nat) (mode : Int) : List (Addr × Int × Str) → Str
  | [] => if i = 0 then "?" else "-"
  | q :: r => if (if i = 0 then Builtin.bitAnd mode 61440 = q.2.1 else Builtin.bitAnd mode q.2.1 = q.2.1) then q.2.2 else pickC i mode r
noncomputable def rowC (mode : Int) : Nat → List (Addr × List (Addr × Int × Str)) → List Str
  | _, [] => []
  | i, r :: rs => pickC i mode r.2 :: rowC mode (i + 1) rs
/-- the row that filemode tells -/
noncomputable def rowS (mode : Int) : Str := Txt.join "" (rowC mode 0 fmRows)
section
theorem ct_S_IFMT (w : World) (mode : Int) (t : Tok) : Ct w 77 [.int mode t] [] (fun _ => True) 1 10 (IntPost (Builtin.bitAnd mode 61440)) := by
  refine ct_def (fr := [("mode", .int mode t)]) (by with_unfolding_all rfl) (by with_unfolding_all rfl) (fun s => BindsTo.of_eq rfl) (locs rfl) rfl rfl rfl rfl (by decide) ?_
  intro p loose mean mg mb A dp un gd outer base g L' s h₁ hdp hun hpre hg F' N' hlt B' X' C1 C2 T' Q0 hQ0 A1 e1
  clear hlt hg hpre
  k_steps
  (try dsimp only)
  exact leave hQ0 F' N' fun _ k => k _
theorem ct_S_IMODE (w : World) (mode : Int) (t : Tok) : Ct w 70 [.int mode t] [] (fun _ => True) 1 10 (IntPost (Builtin.bitAnd mode 4095)) := by
  refine ct_def (fr := [("mode", .int mode t)]) (by with_unfolding_all rfl) (by with_unfolding_all rfl) (fun s => BindsTo.of_eq rfl) (locs rfl) rfl rfl rfl rfl (by decide) ?_
  intro p loose mean mg mb A dp un gd outer base g L' s h₁ hdp hun hpre hg F' N' hlt B' X' C1 C2 T' Q0 hQ0 A1 e1
  clear hlt hg hpre
  k_steps
  (try dsimp only)
  exact leave hQ0 F' N' fun _ k => k _
theorem ct_S_ISDIR (w : World) (mode : Int) (t : Tok) : Ct w 84 [.int mode t] [] (fun _ => True) 3 20 (ValPost fun _ => .bool (Builtin.bitAnd mode 61440 == 16384)) := by
  refine ct_def (fr := [("mode", .int mode t)]) (by with_unfolding_all rfl) (by with_unfolding_all rfl) (fun s => BindsTo.of_eq rfl) (locs rfl) rfl rfl rfl rfl (by decide) ?_
  intro p loose mean mg mb A dp un gd outer base g L' s h₁ hdp hun hpre hg F' N' hlt B' X' C1 C2 T' Q0 hQ0 A1 e1
  clear hlt hg hpre
  k_steps
  refine useI (ct_S_IFMT w mode _) B' (by k_asm) X' C1 C2 T' (by k_asm) rfl (rmD hdp (by decide)) (rmU hun (by decide)) trivial ?_
  intro t' h' tk' F2 N2
  k_sweep
  k_steps
  (try dsimp only)
  exact leave hQ0 F2 N2 fun _ k => k 0
theorem ct_get_sep_s (w : World) (x : Str) (t : Tok) : Ct w 63 [.str x t] [] (fun _ => True) 1 20 (ValPost fun t => .str "/" t) := by
  refine ct_def (fr := [("path", .str x t)]) (by with_unfolding_all rfl) (by with_unfolding_all rfl) (fun s => BindsTo.of_eq rfl) (locs rfl) rfl rfl rfl rfl (by decide) ?_
  intro p loose mean mg mb A dp un gd outer base g L' s h₁ hdp hun hpre hg F' N' hlt B' X' C1 C2 T' Q0 hQ0 A1 e1
  clear hlt hg hpre
  k_steps
  (try dsimp only)
  exact leave hQ0 F' N' fun _ k => k _
theorem ct_get_sep_b (w : World) (x : Array UInt8) (t : Tok) : Ct w 63 [.bytes x t] [] (fun _ => True) 1 20 (ValPost fun t => .bytes #[47] t) := by
  refine ct_def (fr := [("path", .bytes x t)]) (by with_unfolding_all rfl) (by with_unfolding_all rfl) (fun s => BindsTo.of_eq rfl) (locs rfl) rfl rfl rfl rfl (by decide) ?_
  intro p loose mean mg mb A dp un gd outer base g L' s h₁ hdp hun hpre hg F' N' hlt B' X' C1 C2 T' Q0 hQ0 A1 e1
  clear hlt hg hpre
  k_steps
  (try dsimp only)
  exact leave hQ0 F' N' fun _ k => k _
end

section
local macro_rules | `(tactic| walk_at "call type:enumerate") => `(tactic| walk_at "stop")
local macro_rules | `(tactic| walk_at "newList") => `(tactic| walk_at "stop")
/-- the outer loop's word -/
noncomputable def FmInv (e it pl : Addr) (mode : Int) (tm : Tok) (k : Nat) (m : Str → Option Value) (news : Led) : Prop :=
  ∀ C : Prop, (∀ i l n0 old oIt, i + k = 10 → AllLk m [("perm", .ref pl), ("mode", .int mode tm)] → news = [(e, enumO it (i : Nat) old), (it, oIt), (pl, listOf (strValues l).toArray n0)] → TIt oIt 117 i → l.map (·.1) = (rowC mode 0 fmRows).take i → C) → C
/-- the inner loop's word -/
noncomputable def FmIn (I ra pl : Addr) (T : Led) (mode : Int) (tm ti : Tok) (l : List (Str × Tok)) (n0 i : Nat) (ps : List (Addr × Int × Str)) (k : Nat) (m : Str → Option Value) (news : Led) : Prop :=
  ∀ C : Prop, (∀ j oI, j + k = ps.length → AllLk m [("index", .int i ti), ("perm", .ref pl), ("mode", .int mode tm)] → news = (I, oI) :: (pl, listOf (strValues l).toArray n0) :: T → TIt oI ra j → pickC i mode ps = pickC i mode (ps.drop j) → C) → C
theorem rowC_get (mode : Int) : ∀ (rs : List (Addr × List (Addr × Int × Str))) (i j : Nat) (h : j < rs.length), (rowC mode i rs)[j]? = some (pickC (i + j) mode (rs[j]).2)
  | r :: rs, i, 0, _ => rfl
  | r :: rs, i, j + 1, h => by
    have := rowC_get mode rs (i + 1) j (by simpa using h)
    simp only [rowC, List.getElem?_cons_succ, List.getElem_cons_succ, this]
    congr 2; omega
theorem strs_push {l : List (Str × Tok)} {c : Str} {t : Tok} : (strValues l).toArray.push (.str c t) = (strValues (l ++ [(c, t)])).toArray := by
  simp [strValues]
theorem pick_end {i j : Nat} {mode : Int} {ps : List (Addr × Int × Str)} (h : pickC i mode ps = pickC i mode (ps.drop j)) (hj : j + 0 = ps.length) : pickC i mode ps = if i = 0 then Str.ofString "?" else Str.ofString "-" := by
  rw [h, List.drop_of_length_le (by omega)]; rfl
theorem pick_hit {i j : Nat} {mode : Int} {ps : List (Addr × Int × Str)} {q : Addr × Int × Str} (h : pickC i mode ps = pickC i mode (ps.drop j)) (hq : ps[j]? = some q) (c : if i = 0 then Builtin.bitAnd mode 61440 = q.2.1 else Builtin.bitAnd mode q.2.1 = q.2.1) : pickC i mode ps = q.2.2 := by
  obtain ⟨hj, rfl⟩ := List.getElem?_eq_some_iff.mp hq
  rw [h, List.drop_eq_getElem_cons hj]
  exact if_pos c
theorem pick_miss {i j : Nat} {mode : Int} {ps : List (Addr × Int × Str)} {q : Addr × Int × Str} (h : pickC i mode ps = pickC i mode (ps.drop j)) (hq : ps[j]? = some q) (c : ¬ if i = 0 then Builtin.bitAnd mode 61440 = q.2.1 else Builtin.bitAnd mode q.2.1 = q.2.1) : pickC i mode ps = pickC i mode (ps.drop (j + 1)) := by
  obtain ⟨hj, rfl⟩ := List.getElem?_eq_some_iff.mp hq
  rw [h, List.drop_eq_getElem_cons hj]
  exact if_neg c
theorem pick_len (i : Nat) (mode : Int) : ∀ (ps : List (Addr × Int × Str)), (∀ q ∈ ps, q.2.2.length = 1) → (pickC i mode ps).length = 1
  | [], _ => by unfold pickC; split <;> rfl
  | q :: r, h => by
    rw [pickC]
    by_cases c : (if i = 0 then Builtin.bitAnd mode 61440 = q.2.1 else Builtin.bitAnd mode q.2.1 = q.2.1)
    · rw [if_pos c]; exact h q (.head _)
    · rw [if_neg c]; exact pick_len i mode r fun x hx => h x (.tail _ hx)
theorem row_len (mode : Int) : ∀ (i : Nat) (rs : List (Addr × List (Addr × Int × Str))), (∀ r ∈ rs, ∀ q ∈ r.2, q.2.2.length = 1) → ∀ y ∈ rowC mode i rs, y.length = 1
  | _, [], _, _, hy => nomatch hy
  | i, r :: rs, h, y, hy => by
    rcases List.mem_cons.mp hy with rfl | hy
    · exact pick_len i mode r.2 (h r (.head _))
    · exact row_len mode (i + 1) rs (fun x hx => h x (.tail _ hx)) y hy
theorem sum_len : ∀ (l : List Str) (acc : Nat), (∀ y ∈ l, y.length = 1) → l.foldl (fun a y => a + y.length + (Str.ofString "").length) acc = acc + l.length
  | [], acc, _ => rfl
  | y :: r, acc, h => by
    rw [List.foldl_cons, sum_len r _ fun z hz => h z (.tail _ hz), h y (.head _), List.length_cons]
    show acc + 1 + 0 + r.length = _
    omega
theorem join_ok (mode : Int) : JoinOk "" (rowC mode 0 fmRows) = true := by
  unfold JoinOk Builtin.Str.tooLong
  rw [List.foldl_toArray, sum_len _ _ (row_len mode 0 fmRows (by decide))]
  rfl
theorem fm_z {i : Nat} (h : (i : Int) = 0) : i = 0 := Int.ofNat.inj h
theorem fm_nz {i : Nat} (h : (i : Int) ≠ 0) : ¬ i = 0 := fun e => h (by rw [e]; rfl)
theorem fm_up {j k n : Nat} (h : j + (k + 1) = n) : j + 1 + k = n := by rw [Nat.add_assoc, Nat.add_comm 1]; exact h
theorem fm_lt {j k n : Nat} (h : j + (k + 1) = n) : j < n := Nat.lt_of_lt_of_le (Nat.lt_add_of_pos_right (Nat.succ_pos k)) (Nat.le_of_eq h)
theorem ct_filemode (w : World) (mode : Int) (tm : Tok) : Ct w 124 [.int mode tm] [] (fun _ => True) 10 60 (ValPost fun t => .str (rowS mode) t) := by
  refine ct_def (fr := [("mode", .int mode tm)]) (by with_unfolding_all rfl) (by with_unfolding_all rfl) (fun s => BindsTo.of_eq rfl) (locs rfl) rfl rfl rfl rfl (by decide) ?_
  intro p loose mean mg mb A dp un gd outer base g L' s h₁ hdp hun hpre hg F' N' hlt B' X' C1 C2 T' Q0 hQ0 A1 e1
  clear hlt hg hpre
  obtain ⟨fm1, fm2⟩ := fm_at X'
  k_steps
  refine newListM (by k_asm) (by k_asm) ?_
  intro pl hq1 Fq Nq lq1 lq2
  clear lq1
  k_lt2 lq2
  k_sweep
  k_steps
  unfold Stop
  refine wpAny_For ?_
  k_steps
  refine enumCall (by k_asm) (by k_asm) (tupAt fm1 (Fr.keep (by k_asm) _)) ?_
  intro e it h2 F2 N2 l1 l2 l3
  k_lt l1
  k_lt2 l2
  k_lt2 l3
  k_sweep
  have h117 : 117 < L' := by
    obtain ⟨o, ho, _⟩ := fm1
    exact Nat.lt_of_lt_of_le (Heap.lt_size ho) F2.above
  replace h117 := ltN h117
  refine wpAny_pyIter_enum (N2 _ (.head _)).1 ?_
  refine forM (n₀ := 10) (FmInv e it pl mode tm) F2 N2 (fun _ k => k 0 [] 0 .none _ rfl (allLk rfl) rfl ⟨rfl, rfl⟩ rfl) ?_
  clear F2 N2
  intro k m₁ news₁ h₁ tk₁ F1 N1 hJ
  refine hJ _ ?_
  clear hJ
  rintro i l n0 old oIt hik hm rfl hIt hS Q1 hQ1
  replace F1 := frOv F1 hm
  clear hm
  cases k with
  | zero =>
    obtain rfl : i = 10 := hik
    refine enumEnd rfl F1 N1 hIt rfl (tupAt fm1 (F1.keep _)) (by k_ne) (by k_all) ?_
    intro h3 F3 N3
    clear F1 N1
    k_steps
    refine SC.join (PySem.IsL.isList (n := n0) (N3 _ (.head _)).1) (texts := rowC mode 0 fmRows) hS (join_ok mode) ?_
    intro t' kk
    k_steps
    exact leave hQ0 F3 News.nil fun _ k => k _
  | succ k =>
    have hi : i < fmRows.length := fm_lt hik
    obtain ⟨r, hr⟩ : ∃ r, fmRows[i]? = some r := ⟨_, List.getElem?_eq_getElem hi⟩
    obtain ⟨hr1, hr2⟩ := fm2 r (List.mem_of_getElem? hr)
    have hsz : (strValues l).toArray.size ≤ sizeLine := by
      have h1 : l.length ≤ i := by rw [← List.length_map (f := fun x : Str × Tok => x.1), hS]; exact List.length_take_le _ _
      show (l.map _).length ≤ _
      rw [List.length_map, sizeLine_eq]; omega
    refine enumTurn rfl F1 N1 hIt (tupAt fm1 (F1.keep _)) (x := .ref r.1) (by simp [hr]) (by k_ne) (by k_ne) (by k_ne) (by k_all) (by k_all) ?_
    intro T tk oIt' h3 F3 N3 hIt' l4 l5
    clear F1 N1
    k_lt l4
    k_lt2 l5
    k_steps
    unfold Stop
    rename Fr _ _ _ _ => F4
    rename News _ _ _ _ => N4
    refine joinC (fun R1 => ∀ tc n0 h tk m, Fr g L' h m → News g L' h [(pl, listOf (strValues (l ++ [(pickC i mode r.2, tc)])).toArray n0), (e, enumO it ((i : Int) + 1) (.ref r.1)), (it, oIt')] → AllLk m [("perm", .ref pl), ("mode", .int mode tm)] → R1 .next { s with heap := h, toks := tk }) ?_ ?_
    · intro R1 hR1; refine wpAny_For ?_
      k_steps
      refine tupIter F4 (news_sub N4 (l' := [(pl, _), (e, _), (it, _)]) (by walk_at "sub")) (tupAt hr1 (F4.keep _)) ?_
      intro I h5 F5 N5 l6 l7
      k_lt l6
      clear F4 N4
      refine forM (n₀ := r.2.length) (FmIn I r.1 pl [(e, enumO it ((i : Int) + 1) (.ref r.1)), (it, oIt')] mode tm _ l n0 i r.2) F5 N5 (fun _ k => k 0 _ (Nat.zero_add _) (allLk rfl) rfl ⟨rfl, rfl⟩ rfl) ?_
      clear F5 N5
      intro kk m₂ news₂ h₂ tk₂ F1 N1 hJ
      refine hJ _ ?_
      clear hJ
      rintro j oI hjk hm rfl hI hpk Q2 hQ2
      replace F1 := frOv F1 hm
      clear hm
      cases kk with
      | zero =>
        refine tupDone rfl F1 N1 hI (tupAt hr1 (F1.keep _)) (by simp; omega) (by k_all) ?_
        intro h6 F6 N6
        clear F1 N1
        have he := pick_end hpk hjk
        k_steps
        · have h0 : i = 0 := fm_z (by assumption)
          rw [if_pos h0] at he
          rename Fr _ _ _ _ => F9
          rename News _ _ _ _ => N9
          rw [strs_push, ← he] at N9
          exact hR1 _ _ _ _ _ F9 N9 (allLk rfl)
        · have h0 : ¬ i = 0 := fm_nz (by assumption)
          rw [if_neg h0] at he
          rename Fr _ _ _ _ => F9
          rename News _ _ _ _ => N9
          rw [strs_push, ← he] at N9
          exact hR1 _ _ _ _ _ F9 N9 (allLk rfl)
      | succ kk =>
        have hj : j < r.2.length := fm_lt hjk
        obtain ⟨q, hq⟩ : ∃ q, r.2[j]? = some q := ⟨_, List.getElem?_eq_getElem hj⟩
        obtain ⟨u1, u2, hq2⟩ := hr2 q (List.mem_of_getElem? hq)
        refine tupNext F1 N1 hI (tupAt hr1 (F1.keep _)) (x := .ref q.1) (by simp [hq]) (by k_all) ?_
        intro o' h6 F6 N6 hI'
        clear F1 N1
        refine letTupIt N6 (.head _) hI' ?_
        refine unpackN_ F6 N6 (tupAt hq2 (F6.keep _)) rfl rfl rfl ?_
        intro h7 F7 N7
        clear F6 N6
        k_steps
        · have h0 : i = 0 := fm_z (by assumption)
          unfold Stop
          refine useI (ct_S_IFMT w mode _) B' (by k_asm) X' C1 C2 T' (by k_asm) rfl (rmD hdp (by decide)) (rmU hun (by decide)) trivial ?_
          intro t' h' tk' F2 N2
          k_sweep
          k_steps
          · have he := pick_hit hpk hq (by rw [if_pos h0]; assumption)
            rename Fr _ _ _ _ => F9
            rename News _ _ _ _ => N9
            rw [strs_push, ← he] at N9
            exact hQ2 _ _ (hR1 _ _ _ _ _ F9 (news_sub N9 (l' := [(pl, _), (e, _), (it, _)]) (by walk_at "sub")) (allLk rfl))
          · have he := pick_miss hpk hq (by rw [if_pos h0]; assumption)
            exact hQ2 _ _ (FStep.intro (n' := kk) F2 N2 (Nat.lt_succ_self _) fun _ k => k (j + 1) o' (fm_up hjk) (allLk rfl) rfl hI' he)
        · have h0 : ¬ i = 0 := fm_nz (by assumption)
          have he := pick_hit hpk hq (by rw [if_neg h0]; assumption)
          rename Fr _ _ _ _ => F9
          rename News _ _ _ _ => N9
          rw [strs_push, ← he] at N9
          exact hQ2 _ _ (hR1 _ _ _ _ _ F9 (news_sub N9 (l' := [(pl, _), (e, _), (it, _)]) (by walk_at "sub")) (allLk rfl))
        · have h0 : ¬ i = 0 := fm_nz (by assumption)
          have he := pick_miss hpk hq (by rw [if_neg h0]; assumption)
          rename Fr _ _ _ _ => F2
          rename News _ _ _ _ => N2
          exact hQ2 _ _ (FStep.intro (n' := kk) F2 N2 (Nat.lt_succ_self _) fun _ k => k (j + 1) o' (fm_up hjk) (allLk rfl) rfl hI' he)
    · intro tc n0' h8 tk8 m8 F8 N8 hm8
      clear F4 N4
      k_steps
      refine hQ1 _ _ (FStep.intro (n' := k) F8 (news_sub N8 (l' := [(e, _), (it, _), (pl, _)]) (by walk_at "sub")) (Nat.lt_succ_self _) fun _ k => k (i + 1) (l ++ [(pickC i mode r.2, tc)]) n0' _ oIt' (fm_up hik) hm8 rfl hIt' ?_)
      rw [List.map_append, hS, List.take_succ, rowC_get mode fmRows 0 i hi, Nat.zero_add]
      obtain ⟨_, rfl⟩ := List.getElem?_eq_some_iff.mp hr
      rfl
end

/-- by turns -/
noncomputable def alt {α : Type} : List α → List α × List α
  | [] => ([], [])
  | d :: r => (d :: (alt r).2, (alt r).1)
theorem alt_mem : ∀ {l : List Int} {d : Int}, d ∈ (alt l).1 ∨ d ∈ (alt l).2 → d ∈ l
  | [], _, h => h.elim id id
  | x :: r, d, h => by
    rcases h with h | h
    · rcases List.mem_cons.mp h with rfl | h
      · exact .head _
      · exact .tail _ (alt_mem (.inr h))
    · exact .tail _ (alt_mem (.inl h))
theorem dval_nonneg {n : Nat} : ∀ {l : List Int}, (∀ d ∈ l, 0 ≤ d ∧ d < 2 ^ n) → 0 ≤ dval n l
  | [], _ => Int.le_refl _
  | d :: r, h => Int.add_nonneg (h d (.head _)).1 (Int.mul_nonneg (Int.le_of_lt (pow2_pos n)) (dval_nonneg fun x hx => h x (.tail _ hx)))
theorem dval_hd {n : Nat} {d v : Int} (h : 0 ≤ d ∧ d < 2 ^ n) : (d + 2 ^ n * v).fmod (2 ^ n) = d ∧ (d + 2 ^ n * v).fdiv (2 ^ n) = v := by
  obtain ⟨a, b⟩ := div_mod_of (a := d + 2 ^ n * v) (q := v) (r := d) (by rw [Int.mul_comm, Int.add_comm]) h.1 h.2
  exact ⟨b, a⟩
theorem dval_zero {n : Nat} : ∀ {l : List Int}, (∀ d ∈ l, 0 ≤ d ∧ d < 2 ^ n) → dval n (alt l).1 ≤ 0 → dval n (alt l).2 ≤ 0 → dval n l = 0
  | [], _, _, _ => rfl
  | d :: r, h, h1, h2 => by
    have hr := fun x hx => h x (.tail d hx)
    have a1 : 0 ≤ dval n (alt r).2 := dval_nonneg fun x hx => hr x (alt_mem (.inr hx))
    have a2 := (h d (.head _)).1
    have a3 : d + 2 ^ n * dval n (alt r).2 ≤ 0 := h1
    have a4 := Int.mul_nonneg (Int.le_of_lt (pow2_pos n)) a1
    have a5 : dval n (alt r).2 ≤ 0 := by
      refine Int.not_lt.mp fun q => ?_
      have := Int.mul_pos (pow2_pos n) q
      omega
    have e := dval_zero hr h2 a5
    rw [dval, e, Int.mul_zero]; omega
/-- one turn of the dealing -/
theorem deal_step {n : Nat} : ∀ {l : List Int}, (∀ d ∈ l, 0 ≤ d ∧ d < 2 ^ n) →
    dval n l = (dval n (alt l).1).fmod (2 ^ n) + (dval n (alt l).2).fmod (2 ^ n) * 2 ^ n + 2 ^ n * 2 ^ n * dval n (l.drop 2) ∧ (dval n (alt l).1).fdiv (2 ^ n) = dval n (alt (l.drop 2)).1 ∧ (dval n (alt l).2).fdiv (2 ^ n) = dval n (alt (l.drop 2)).2
  | [], _ => by
    simp only [alt, dval, List.drop, Int.zero_fmod, Int.zero_fdiv, Int.zero_mul, Int.mul_zero, Int.add_zero, and_self]
  | [d], h => by
    obtain ⟨a, b⟩ := dval_hd (v := 0) (h d (.head _))
    simp only [alt, dval, List.drop, Int.mul_zero, Int.add_zero] at a b ⊢
    exact ⟨by rw [a, Int.zero_fmod, Int.zero_mul, Int.add_zero], b, Int.zero_fdiv _⟩
  | d :: e :: r, h => by
    obtain ⟨a, b⟩ := dval_hd (v := dval n (alt r).1) (h d (.head _))
    obtain ⟨a', b'⟩ := dval_hd (v := dval n (alt r).2) (h e (.tail _ (.head _)))
    simp only [alt, dval, List.drop]
    refine ⟨?_, b, b'⟩
    rw [a, a', Int.mul_add, Int.mul_comm (2 ^ n) e, Int.mul_assoc]
    omega
theorem deal_sum {V wh pl x P t : Int} (h : wh + pl * (x + P * P * t) = V) : wh + pl * x + pl * (P * P) * t = V := by rw [← h]; grind
theorem four_pow (W : Nat) : (4 : Int) ^ W = 2 ^ W * 2 ^ W := by rw [← Int.mul_pow]; rfl
theorem bits_log2 {x : Int} {m : Nat} (h : intBits x ≤ m + 1) : x.natAbs.log2 ≤ m := by
  rcases Nat.eq_zero_or_pos x.natAbs with e | e
  · rw [e]; exact Nat.zero_le _
  · exact Nat.le_of_lt_succ ((Nat.log2_lt (Nat.ne_of_gt e)).mpr (intBits_le_iff.mp h))
theorem log2_pow2 (W : Nat) : ((2 : Int) ^ W).natAbs.log2 = W := by rw [Int.natAbs_pow]; exact Nat.log2_two_pow
/-- the quotient is small, or the divisor -/
theorem no_pylong {x : Int} {W e0 : Nat} (hx : intBits x ≤ e0) (h : W ≤ 8900 ∨ e0 ≤ W + 4000) : Builtin.divisionGoesByPylong x (2 ^ W) = false := by
  rcases h with h | h
  · exact PyProof.noPylong_of_log2 (by rw [log2_pow2]; omega)
  · have hl : x.natAbs.log2 ≤ W + 4000 := bits_log2 (by omega)
    have hy : ¬ ((2 : Int) ^ W == 0) = true := fun h => Int.ne_of_gt (pow2_pos W) (eq_of_beq h)
    refine Bool.and_eq_false_iff.mpr (.inr (decide_eq_false ?_))
    show ¬ ((if x == 0 then 0 else x.natAbs.log2 / 30 + 1) > (if (2 : Int) ^ W == 0 then 0 else ((2 : Int) ^ W).natAbs.log2 / 30 + 1) + 150)
    rw [if_neg hy, log2_pow2]
    split <;> omega
noncomputable def dealL (W : Nat) (E O wh pl : Int) : VL := [("place", .i pl), ("whole", .i wh), ("width", .i (W : Nat)), ("odd", .i O), ("even", .i E)]
noncomputable def DealInv (W : Nat) (V : Int) (e0 : Nat) (n : Nat) (m : Str → Option Value) (news : Led) : Prop :=
  ∀ C : Prop, (∀ rest wh pl, AllV m (dealL W (dval W (alt rest).1) (dval W (alt rest).2) wh pl) → news = [] → n = rest.length → (∀ d ∈ rest, 0 ≤ d ∧ d < 2 ^ W) → wh + pl * dval W rest = V →
    intBits pl + 60002 * n ≤ 4000000 → intBits (dval W (alt rest).1) ≤ e0 → intBits (dval W (alt rest).2) ≤ e0 → C) → C
section
local macro_rules | `(tactic| walk_at "exec While BoolOp cons nil") => `(tactic| walk_at "stop")
theorem ct_law_dealt (w : World) (W e0 : Nat) (t1 t2 t3 : Tok) (ds : List Int) (hW : W ≤ 30000) (he : W ≤ 8900 ∨ e0 ≤ W + 4000) (hds : ∀ d ∈ ds, 0 ≤ d ∧ d < 2 ^ W) (hlen : ds.length ≤ 64)
    (h1 : intBits (dval W (alt ds).1) ≤ e0) (h2 : intBits (dval W (alt ds).2) ≤ e0) (he0 : e0 ≤ 100000) :
    Ct w 138 [.int (dval W (alt ds).1) t1, .int (dval W (alt ds).2) t2, .int (W : Nat) t3] [] (fun _ => True) 3 20 (IntPost (dval W ds)) := by
  refine ct_def (fr := [("width", .int (W : Nat) t3), ("odd", .int (dval W (alt ds).2) t2), ("even", .int (dval W (alt ds).1) t1)]) (by with_unfolding_all rfl) (by with_unfolding_all rfl) (fun s => BindsTo.of_eq rfl) (locs rfl) rfl rfl rfl rfl (by decide) ?_
  intro p loose mean mg mb A dp un gd outer base g L' s h₁ hdp hun hpre hg F' N' hlt B' X' C1 C2 T' Q0 hQ0 A1 e1
  clear hlt hg hpre hdp hun B' X' C1 C2 T'
  refine blk 2 [("width", .i (W : Nat)), ("odd", .i (dval W (alt ds).2)), ("even", .i (dval W (alt ds).1))] _ F' N' ⟨⟨_, rfl⟩, ⟨_, rfl⟩, ⟨_, rfl⟩, trivial⟩ rfl (by walk_at "bl") ?_
  intro hh2 tk2 m2 F2 N2 hl2
  refine wpAny_execs_cons ?_
  refine whileM (DealInv W (dval W ds) e0) F2 N2 (fun _ k => k ds 0 1 hl2 rfl rfl hds (by rw [Int.one_mul, Int.zero_add]) (by show 1 + 60002 * ds.length ≤ _; omega) h1 h2) ?_
  clear F2 hlen hds
  intro k m₁ news₁ h₂ tk₂ F3 N3 hJ
  refine hJ _ ?_
  clear hJ
  rintro rest wh pl hm rfl rfl hr hV hpl b1 b2 Q1 hQ1
  have hp0 := Int.ne_of_gt (pow2_pos W)
  have kp : intBits ((2 : Int) ^ W) ≤ 30001 := Nat.le_trans (bits_pow2 W) (Nat.succ_le_succ hW)
  refine (show TsI _ _ _ (0 < dval W (alt rest).1 ∨ 0 < dval W (alt rest).2) by walk_at "ts") w _ _ _ _ m₁ _ _ rfl F3.ns hm fun b tk hb1 hb2 => ?_
  cases b with
  | false =>
    obtain ⟨u1, u2⟩ := not_or.mp (hb2 rfl)
    rw [if_neg Bool.false_ne_true]
    replace F3 := frOv F3 (l := [("whole", .int wh _)]) ⟨hm.2.1.choose_spec, trivial⟩
    k_steps
    rename Fr _ _ _ _ => F4
    exact leave hQ0 F4 News.nil (impI (by rw [← hV, dval_zero hr (Int.not_lt.mp u1) (Int.not_lt.mp u2), Int.mul_zero, Int.add_zero]))
  | true =>
    rw [if_pos rfl]
    obtain ⟨v1, v2, v3⟩ := deal_step hr
    have hl : (rest.drop 2).length + 1 ≤ rest.length := by
      cases rest with
      | nil => exact absurd (hb1 rfl) (fun q => q.elim (Int.lt_irrefl _) (Int.lt_irrefl _))
      | cons => simp
    have k2 : intBits (2 : Int) ≤ 2 := by decide
    have k4 : intBits (4 : Int) ≤ 3 := by decide
    have kpl : intBits pl ≤ 4000000 := Nat.le_trans (Nat.le_add_right _ _) hpl
    have kE := intBits_fmod_le (Nat.le_trans b1 he0) kp
    have kO := intBits_fmod_le (Nat.le_trans b2 he0) kp
    have kz := intBits_mul_le kO kp
    have o1 : OpTo .Pow 2 (W : Nat) (2 ^ W) := OpTo.pow (nn W) k2 (by rw [Int.toNat_natCast]; omega) rfl
    have o2 : OpTo .Mod (dval W (alt rest).1) (2 ^ W) _ := OpTo.mod hp0 rfl
    have o3 : OpTo .Mod (dval W (alt rest).2) (2 ^ W) _ := OpTo.mod hp0 rfl
    have o4 := OpTo.mul kO kp (by decide) rfl
    have o5 := OpTo.add (a := (dval W (alt rest).1).fmod (2 ^ W)) (b := (dval W (alt rest).2).fmod (2 ^ W) * 2 ^ W) rfl
    have o6 := OpTo.mul kpl (intBits_add_le kE kz) (by decide) rfl
    have o7 : OpTo .Pow 4 (W : Nat) _ := OpTo.pow (nn W) k4 (by rw [Int.toNat_natCast]; omega) (four_pow W)
    have i1 := IopTo.add (a := wh) (b := pl * ((dval W (alt rest).1).fmod (2 ^ W) + (dval W (alt rest).2).fmod (2 ^ W) * 2 ^ W)) rfl
    have i2 := IopTo.mul kpl (intBits_mul_le kp kp) (by decide) rfl
    have i3 := IopTo.fdiv hp0 (no_pylong b1 he) v2
    have i4 := IopTo.fdiv hp0 (no_pylong b2 he) v3
    refine blk 5 _ _ F3 N3 hm rfl (by walk_at "bl") ?_
    intro h4 tk4 m4 F4 N4 hl4
    refine wpAny_execs_nil (hQ1 _ _ (WStep.intro F4 News.nil hl fun _ k => k (rest.drop 2) _ _ ⟨hl4.2.2.1, hl4.2.2.2.1, hl4.2.2.2.2.1, hl4.1, hl4.2.1, trivial⟩ rfl rfl (fun d hd => hr d (List.mem_of_mem_drop hd)) ?_ ?_ ?_ ?_))
    · rw [v1] at hV; exact deal_sum hV
    · have := intBits_mul_le (Nat.le_refl (intBits pl)) (intBits_mul_le kp kp)
      omega
    · rw [← v2]; exact Nat.le_trans (intBits_fdiv_le b1) (Nat.le_refl _)
    · rw [← v3]; exact Nat.le_trans (intBits_fdiv_le b2) (Nat.le_refl _)
end

/-- a file's path, by its places from the root -/
noncomputable def pthN : List Nat → List Nat
  | [] => []
  | p :: r => 47 :: (48 + p) :: pthN r
noncomputable def pthS (ps : List Nat) : Str := ⟨(pthN ps).toArray⟩
theorem pthN_snoc : ∀ (ps : List Nat) (j : Nat), pthN (ps ++ [j]) = pthN ps ++ [47, 48 + j]
  | [], _ => rfl
  | p :: r, j => by rw [List.cons_append, pthN, pthN_snoc r j]; rfl
theorem pthN_len : ∀ (ps : List Nat), (pthN ps).length = 2 * ps.length
  | [] => rfl
  | p :: r => by rw [pthN, List.length_cons, List.length_cons, pthN_len r, List.length_cons]; omega
theorem pthS_len (ps : List Nat) : (pthS ps).length = 2 * ps.length := by
  show (pthN ps).toArray.size = _
  rw [List.size_toArray, pthN_len]
theorem dig_str : ∀ (j : Nat), j < 10 → Str.ofString (toString (j : Int)) = ⟨#[48 + j]⟩ := by decide +kernel
theorem pth_add (ps : List Nat) {j : Nat} (h : j < 10) : pthS ps ++ Str.ofString "/" ++ Str.ofString (toString (j : Int)) = pthS (ps ++ [j]) := by
  rw [dig_str j h]
  show (⟨(pthN ps).toArray ++ #[47] ++ #[48 + j]⟩ : Str) = ⟨(pthN (ps ++ [j])).toArray⟩
  rw [pthN_snoc]
  simp
theorem pthN_inj : ∀ {ps qs : List Nat}, pthN ps = pthN qs → ps = qs
  | [], [], _ => rfl
  | [], _ :: _, h => nomatch h
  | _ :: _, [], h => nomatch h
  | p :: r, q :: s, h => by
    simp only [pthN, List.cons.injEq, true_and] at h
    rw [show p = q by omega, pthN_inj h.2]
theorem pthS_inj {ps qs : List Nat} (h : pthS ps = pthS qs) : ps = qs := pthN_inj (by
  have := congrArg (fun x : Str => x.cps.toList) h
  simpa [pthS] using this)
noncomputable def kindT : List Int := [4, 8, 10, 1, 2, 6, 12]
noncomputable def modeOf (c : Int) : Int := kindT.getD (c / 4096 % 7).toNat 0 * 4096 + c % 4096
noncomputable abbrev isD (c : Int) : Prop := c / 4096 % 7 = 0
section
variable (B : Int) (W : Nat)
noncomputable def cOf (M : Int) : Int := (M - 1) % B
noncomputable def qOf (M : Int) : Int := (M - 1) / B
noncomputable def dgs (q : Int) : List Int := digs W q ((intBits q + W - 1) / W)
noncomputable def sbn (M : Int) : Int := dval W (alt (dgs W (qOf B M))).1
noncomputable def odn (M : Int) : Int := dval W (alt (dgs W (qOf B M))).2
noncomputable def nx (M : Int) : Int := if isD (cOf B M) then odn B W M else qOf B M
noncomputable def lev : Nat → Int → List Int
  | 0, _ => []
  | k + 1, N => if N ≤ 0 then [] else N :: lev k (nx B W N)
/-- what a book tells of a tree -/
noncomputable def Bk (get : List Nat → Option Int) (k : Nat) : Nat → Int → List Nat → Prop
  | 0, _, _ => False
  | d + 1, N, ps => get (ps ++ [(lev B W k N).length]) = none ∧ ∀ j M, (lev B W k N)[j]? = some M → get (ps ++ [j]) = some (cOf B M) ∧ (isD (cOf B M) → Bk get k d (sbn B W M) (ps ++ [j]))
theorem lev_len : ∀ (k : Nat) (N : Int), (lev B W k N).length ≤ k
  | 0, _ => Nat.le_refl _
  | k + 1, N => by
    rw [lev]
    split
    · exact Nat.zero_le _
    · exact Nat.succ_le_succ (lev_len k _)
end
theorem alt_le {n : Nat} : ∀ {l : List Int}, (∀ d ∈ l, 0 ≤ d ∧ d < 2 ^ n) → dval n (alt l).1 ≤ dval n l ∧ dval n (alt l).2 ≤ dval n l
  | [], _ => ⟨Int.le_refl _, Int.le_refl _⟩
  | d :: r, h => by
    have hr := fun x hx => h x (.tail d hx)
    obtain ⟨a, b⟩ := alt_le hr
    have p := pow2_pos n
    have h0 := (h d (.head _)).1
    have hv : dval n r ≤ 2 ^ n * dval n r := by
      have h1 : 0 ≤ (2 ^ n - 1) * dval n r := Int.mul_nonneg (by omega) (dval_nonneg hr)
      have h2 : (2 ^ n - 1) * dval n r = 2 ^ n * dval n r - dval n r := by rw [Int.sub_mul, Int.one_mul]
      omega
    have hb := Int.mul_le_mul_of_nonneg_left b (Int.le_of_lt p)
    simp only [alt, dval]
    omega
section
variable {B : Int} {W : Nat}
theorem dgs_ok {q : Int} : ∀ d ∈ dgs W q, 0 ≤ d ∧ d < 2 ^ W := digs_bound W _ q
theorem dgs_val {q : Int} (hW : 1 ≤ W) (h : 0 ≤ q) : dval W (dgs W q) = q := dval_digs W _ q h (digit_count hW h)
theorem q_facts {M : Int} (hB : 0 < B) (hM : 0 < M) : 0 ≤ qOf B M ∧ qOf B M < M ∧ 0 ≤ cOf B M ∧ cOf B M < B ∧ 1 + cOf B M + B * qOf B M = M := by
  have e := Int.mul_ediv_add_emod (M - 1) B
  have h1 := Int.emod_nonneg (M - 1) (Int.ne_of_gt hB)
  have h2 := Int.emod_lt_of_pos (M - 1) hB
  have h3 : 0 ≤ (M - 1) / B := Int.ediv_nonneg (by omega) (Int.le_of_lt hB)
  have h4 : (M - 1) / B ≤ B * ((M - 1) / B) := by
    have := Int.mul_nonneg (show 0 ≤ B - 1 by omega) h3
    have e2 : (B - 1) * ((M - 1) / B) = B * ((M - 1) / B) - (M - 1) / B := by rw [Int.sub_mul, Int.one_mul]
    omega
  unfold qOf cOf
  exact ⟨h3, by omega, h1, h2, by omega⟩
theorem q_pow {M : Int} {k : Nat} (hB : 0 < B) (hM : M < B ^ (k + 1)) : qOf B M < B ^ k := Int.ediv_lt_of_lt_mul hB (by rw [Int.pow_succ] at hM; omega)
theorem sub_facts {M : Int} (hB : 0 < B) (hW : 1 ≤ W) (hM : 0 < M) : (0 ≤ sbn B W M ∧ sbn B W M ≤ qOf B M) ∧ (0 ≤ nx B W M ∧ nx B W M ≤ qOf B M) := by
  obtain ⟨h0, _⟩ := q_facts hB hM
  obtain ⟨a, b⟩ := alt_le (dgs_ok (W := W) (q := qOf B M))
  rw [dgs_val hW h0] at a b
  refine ⟨⟨dval_nonneg fun d hd => dgs_ok d (alt_mem (.inl hd)), a⟩, ?_⟩
  unfold nx
  split
  · exact ⟨dval_nonneg fun d hd => dgs_ok d (alt_mem (.inr hd)), b⟩
  · exact ⟨h0, Int.le_refl _⟩
theorem lev_facts (hB : 0 < B) (hW : 1 ≤ W) : ∀ (k : Nat) (N : Int), 0 ≤ N → N < B ^ k → ((lev B W k N)[0]?).getD 0 = N ∧ ∀ j M, (lev B W k N)[j]? = some M → 0 < M ∧ M ≤ N ∧ ((lev B W k N)[j + 1]?).getD 0 = nx B W M
  | 0, N, h0, h1 => by
    rw [Int.pow_zero] at h1
    exact ⟨by show (0 : Int) = N; omega, fun j M h => nomatch h⟩
  | k + 1, N, h0, h1 => by
    rw [lev]
    by_cases hN : N ≤ 0
    · rw [if_pos hN]
      exact ⟨by show (0 : Int) = N; omega, fun j M h => nomatch h⟩
    · rw [if_neg hN]
      obtain ⟨_, n1, n2⟩ := sub_facts (W := W) hB hW (Int.not_le.mp hN)
      obtain ⟨i0, i1⟩ := lev_facts hB hW k _ n1 (Int.lt_of_le_of_lt n2 (q_pow hB h1))
      refine ⟨rfl, fun j M h => ?_⟩
      cases j with
      | zero => cases h; exact ⟨Int.not_le.mp hN, Int.le_refl _, by rw [List.getElem?_cons_succ]; exact i0⟩
      | succ j =>
        rw [List.getElem?_cons_succ] at h ⊢
        obtain ⟨a, b, c⟩ := i1 j M h
        have := (q_facts hB (Int.not_le.mp hN)).2.1
        exact ⟨a, by omega, c⟩
end

section
variable {prog : Program} {w : World} {A : Around} {s : Shared} {h₀ : Heap} {L : Addr} {m : Str → Option Value} {env : Env}
open LCt LCg in
/-- a comprehension with a test by an invariant -/
theorem compT_ind {ct elt : PySem.Expr} {x : Str} {scope : Scope} {cl : List (Str × Addr)} {S : Led → Prop} {P : Nat → Value → Prop} {Fin : List Value → Led → Prop} (n : Nat) (Inv : Nat → List Value → Led → Prop) (hfin : ∀ ys news, Inv n ys news → Fin ys news)
    (step : ∀ i ys news, i < n → Inv i ys news → ∀ v I oI C oC D m₂ h tk (E' : Value → Shared → Prop), P i v → NsObj oC m₂ → m₂ x = some v → Fr h₀ L h m → News h₀ L h ((I, oI) :: (C, oC) :: (D, lst ys) :: news) → Off3 I C D news → ((@Ne Nat I C) ∧ (@Ne Nat I D) ∧ (@Ne Nat C D)) →
      ∀ R1 : Value → Shared → Prop, (∀ y s', CompEnd h₀ L m { s with heap := h, toks := tk } I oI C oC D (lst ys) S (fun y news' => Inv (i + 1) (ys ++ [y]) news') y s' → R1 y s') →
      ∀ R0 : Shared → Prop, (∀ s', CompEnd h₀ L m { s with heap := h, toks := tk } I oI C oC D (lst ys) S (fun _ news' => Inv (i + 1) ys news') Value.none s' → R0 s') →
      wpAny (model prog w) A (isTrue ct (compEnvC scope cl C env) (eval ct (compEnvC scope cl C env))) (fun ok s' => if ok = true then wpAny (model prog w) A (eval elt (compEnvC scope cl C env)) R1 E' s' else R0 s') E' { s with heap := h, toks := tk }) :
    ∀ (k i : Nat) (ys : List Value) (news : Led), i + k = n → Inv i ys news → CompRestT prog w A h₀ L m env ct elt x scope cl s S P Fin k i ys news := by
  intro k
  induction k with
  | zero => intro i ys news e hi; obtain rfl : i = n := e; exact hfin _ _ hi
  | succ k ih =>
    intro i ys news e hi
    refine CompRestT.succ fun v I oI C oC D m₂ h tk E' a1 a2 a3 a4 a5 a6 a7 => ?_
    refine wpAny_mono (step i ys news (by omega) hi v I oI C oC D m₂ h tk E' a1 a2 a3 a4 a5 a6 a7 _ (fun _ _ x => x) _ fun _ x => x) (fun ok s' h' => ?_) fun _ _ x => x
    have up : ∀ {rest rest' : Value → Led → Prop} {ys' y s''}, (∀ y nw, rest y nw → rest' y nw) → CompEnd h₀ L m { s with heap := h, toks := tk } I oI C oC D (lst ys') S rest y s'' → CompEnd h₀ L m { s with heap := h, toks := tk } I oI C oC D (lst ys') S rest' y s'' :=
      fun q ⟨h', tk, nw, e1, e2, e3, e4, e5, e6⟩ => ⟨h', tk, nw, e1, e2, e3, e4, e5, q _ _ e6⟩
    cases ok with
    | true =>
      rw [if_pos rfl] at h' ⊢
      exact wpAny_mono h' (fun y s'' h'' => up (fun y nw q => ih _ _ _ (by omega) q) h'') fun _ _ x => x
    | false =>
      rw [if_neg Bool.false_ne_true] at h' ⊢
      exact up (fun y nw q => ih _ _ _ (by omega) q) h'
end
noncomputable def rMarks : List Str := ["xt", "w", "r", "xs", "w", "r", "xs", "w", "r", "tT", "sS", "sS"]
noncomputable def rPlaces : List Int := [9, 8, 7, 6, 5, 4, 3, 2, 1, 9, 6, 3]
/-- the rights that a row tells -/
noncomputable def rHit (row : Str) (i : Nat) : Bool := Txt.contains (rMarks.getD i "") (Txt.item row (rPlaces.getD i 0))
noncomputable def rtL (row : Str) : Nat → List Int
  | 0 => []
  | i + 1 => rtL row i ++ (if rHit row i then [2 ^ i] else [])
noncomputable def TupI (ns : List Int) (o : Obj) : Prop := o.cls = .type "tuple" ∧ ∃ vs n, o.data = .seq (List.toArray vs) n ∧ IntsAre vs ns
noncomputable def TupS (ws : List Str) (o : Obj) : Prop := o.cls = .type "tuple" ∧ ∃ vs n, o.data = .seq (List.toArray vs) n ∧ StrsAre vs ws
section
variable {prog : Program} {w : World} {A : Around} {E : Value → Shared → Prop} {s : Shared} {h₀ : Heap} {L : Addr} {m : Str → Option Value} {news : Led}
theorem newTupleG {vs : List Value} {Q : Value → Shared → Prop} (P : Obj → Prop) (F : Fr h₀ L s.heap m) (N : News h₀ L s.heap news) (hP : P { cls := .type "tuple", data := .seq vs.toArray })
    (h : ∀ l o h', P o → Fr h₀ L h' m → News h₀ L h' ((l, o) :: news) → (∀ p ∈ news, p.1 < l) → L < l → Q (.ref l) { s with heap := h' }) (hsz : vs.length ≤ sizeLine) : wpAny (model prog w) A (newTuple vs) Q E s :=
  newTuple_N F N (fun h' F' N' => h _ _ h' hP F' N' (fun p hp => Heap.lt_size (N p hp).1) F.ns.lt) hsz
theorem tupI_at {value slice : PySem.Expr} {l : Addr} {o : Obj} {ns : List Int} {i : Nat} {u : Tok} {Q : Value → Shared → Prop} (N : News h₀ L s.heap news) (hm : (l, o) ∈ news) (ho : TupI ns o) (hi : i < ns.length) (hb : ns.length ≤ 1000) (h : ∀ t, Q (.int (ns.getD i 0) t) s)
    (hs : subscripted slice false (.ref l) (.int (i : Nat) u) = operate [.ref l, .int (i : Nat) u] (getItem (.ref l) (.int (i : Nat) u))) : wpAny (model prog w) A (subscriptTail value slice (.ref l) (.int (i : Nat) u)) Q E s := by
  obtain ⟨hc, vs, n, hd, hI⟩ := ho
  obtain ⟨t, e⟩ := intsAre_get hI hi
  have hl := hI.length
  refine item_tupleT (l := vs) (j := i) ⟨o, (N _ hm).1, hc, n, hd⟩ (by omega) (by omega) (seqIndex_of (by omega) (by omega)) e ?_ hs
  have := h t
  rwa [List.getD_eq_getElem?_getD, List.getElem?_eq_getElem hi] at this
theorem tupS_at {value slice : PySem.Expr} {l : Addr} {o : Obj} {ws : List Str} {i : Nat} {u : Tok} {Q : Value → Shared → Prop} (N : News h₀ L s.heap news) (hm : (l, o) ∈ news) (ho : TupS ws o) (hi : i < ws.length) (hb : ws.length ≤ 1000) (h : ∀ t, Q (.str (ws.getD i "") t) s)
    (hs : subscripted slice false (.ref l) (.int (i : Nat) u) = operate [.ref l, .int (i : Nat) u] (getItem (.ref l) (.int (i : Nat) u))) : wpAny (model prog w) A (subscriptTail value slice (.ref l) (.int (i : Nat) u)) Q E s := by
  obtain ⟨hc, vs, n, hd, hI⟩ := ho
  exact KTb.item_tup ⟨o, (N _ hm).1, hc, n, hd⟩ hI (by omega) (by omega) (by omega) (fun t' _ => by rw [Int.toNat_natCast]; exact h t') hs
end
theorem rP_fit : ∀ i, i < 12 → 0 ≤ rPlaces.getD i 0 ∧ rPlaces.getD i 0 < 10 := by decide
section
local macro_rules | `(tactic| walk_at "CompSrcT") => `(tactic| walk_at "stop")
local macro_rules | `(tactic| walk_at "subscriptTail") => `(tactic| walk_at "stop")
local macro_rules | `(tactic| walk_at "eval ListComp") => `(tactic| walk_at "stop")
local macro_rules | `(tactic| walk_at "newTuple") => `(tactic| walk_at "stop")
local macro_rules | `(tactic| walk_at "binaryOp Pow int int") => `(tactic| walk_at "stop")
theorem ct_law_rights (w : World) (row : Str) (t : Tok) (hr : row.length = 10) : Ct w 143 [.str row t] [] (fun _ => True) 10 60 (IntPost (rtL row 12).sum) := by
  refine ct_defC (binds := [("row", .str row t)]) (by with_unfolding_all rfl) (by with_unfolding_all rfl) (fun s => BindsTo.of_eq rfl) rfl (by decide +kernel) rfl rfl rfl ?_
  intro p loose mean mg mb A dp un gd outer base g L' s h₁ tk cells hdp hun hpre hg F' N' hY hlt B' X' C1 C2 T' Q0 hQ0 A1 e1
  obtain ⟨o1, o2, o3, rfl, d1, d2, d3⟩ := CellsAre.three hY
  (try simp only [List.cons_append, List.nil_append] at N'); (try dsimp only)
  clear hlt hg hpre hY
  replace d1 : o1.data = .cell none := d1
  replace d2 : o2.data = .cell none := d2
  replace d3 : o3.data = .cell (some (.str row t)) := d3
  replace F' := frL F' [] trivial (fun y _ => by unfold bindL; rfl)
  k_steps
  unfold Stop
  refine newTupleG (TupS rMarks) (by k_asm) (by k_asm) ⟨rfl, _, _, rfl, .cons _ _ (.cons _ _ (.cons _ _ (.cons _ _ (.cons _ _ (.cons _ _ (.cons _ _ (.cons _ _ (.cons _ _ (.cons _ _ (.cons _ _ (.cons _ _ .nil)))))))))))⟩ ?_ (Nat.le_of_ble_eq_true rfl)
  intro dM oM h2 hM F2 N2 l1 l2
  k_lt l1
  k_lt2 l2
  k_sweep
  k_steps
  unfold Stop
  refine newTupleG (TupI rPlaces) (by k_asm) (by k_asm) ⟨rfl, _, _, rfl, .cons _ _ (.cons _ _ (.cons _ _ (.cons _ _ (.cons _ _ (.cons _ _ (.cons _ _ (.cons _ _ (.cons _ _ (.cons _ _ (.cons _ _ (.cons _ _ .nil)))))))))))⟩ ?_ (Nat.le_of_ble_eq_true rfl)
  intro dP oP h3 hP F2 N2 l1 l2
  k_lt l1
  k_lt2 l2
  k_sweep
  k_steps
  unfold Stop
  refine LCt.ListComp_T (by k_asm) (by with_unfolding_all rfl) (by decide) rfl (by decide) rfl ?_
  k_steps
  unfold Stop
  rename Fr _ _ _ _ => F2
  rename News _ _ _ _ => N2
  refine LCt.CompSrcT.range rfl F2 N2 (by assumption) (by decide) rfl (by decide) ?_
  intro g'
  dsimp only
  refine compT_ind 12 (fun i ys news => news = [_, _, _, _, _] ∧ IntsAre ys (rtL row i)) (fun ys news => ?_) (fun i ys news hi => ?_) 12 0 [] _ rfl ⟨rfl, .nil⟩
  · rintro ⟨rfl, hI⟩ D h tk F4 N4 o1
    k_steps
    rename Fr _ _ _ _ => F9
    exact leave hQ0 F9 News.nil fun _ k => k _
  · rintro ⟨rfl, hI⟩ v I oI C oC D m₂ h tk E' ⟨tj, rfl⟩ hC hx F3 N3 off ne R1 hR1 R0 hR0
    rw [Int.zero_add] at hx
    clear F2 N2
    obtain ⟨u0, u1⟩ := rP_fit i hi
    k_steps
    unfold Stop
    refine tupI_at N3 (by k_mem) hP hi (by decide) (fun t5 => ?_) (by with_unfolding_all rfl)
    k_steps
    unfold Stop
    refine item_str (fitsSsize_of (N := 9223372036854775808) (by omega) (by omega) (Int.le_refl _)) (by omega) (by omega) (fun _ => ?_)
    k_steps
    unfold Stop
    refine tupS_at N3 (by k_mem) hM hi (by decide) (fun t6 => ?_) (by with_unfolding_all rfl)
    k_steps
    · rename (_ = true) => hh
      refine hR0 _ (LCg.CompEnd.intro F3 N3 _ (fun _ h => h) off trivial ⟨rfl, ?_⟩)
      show IntsAre ys (rtL row i ++ _)
      rw [if_neg (show ¬ rHit row i = true by show ¬ (!_) = true; rw [hh]; exact Bool.false_ne_true), List.append_nil]
      exact hI
    · rename (_ = false) => hh
      refine OpTo.pow (b := (i : Nat)) (nn i) (m := 2) (by decide) (by rw [Int.toNat_natCast]; omega) rfl w _ _ _ _ _ _ ?_
      k_steps
      rename Fr _ _ _ _ => F9
      rename News _ _ _ _ => N9
      refine hR1 _ _ (LCg.CompEnd.intro F9 N9 _ (fun _ h => h) off trivial ⟨rfl, ints_app hI ?_⟩)
      rw [if_pos (show rHit row i = true by show (!_) = true; rw [hh]; rfl)]
      exact .cons _ _ .nil
end

noncomputable def ltrs : List Str := ["d", "-", "l", "p", "c", "b", "s"]
theorem pick_one {i : Nat} {mode : Int} {ps : List (Addr × Int × Str)} (h : ∀ q ∈ ps, q.2.2.length = 1) : ∃ a, pickC i mode ps = ⟨#[a]⟩ := by
  have hl := pick_len i mode ps h
  generalize pickC i mode ps = x at *
  obtain ⟨⟨l⟩⟩ := x
  match l, hl with
  | [a], _ => exact ⟨a, rfl⟩
theorem and_bit (m k : Nat) : m &&& 2 ^ k = (m / 2 ^ k % 2) * 2 ^ k := by
  have := kbt_bit (m : Int) k
  rw [bitAnd_pp (by omega) (by exact_mod_cast Nat.zero_le (2 ^ k))] at this
  have e : ((2 : Int) ^ k).toNat = 2 ^ k := by
    have : (2 : Int) ^ k = ((2 ^ k : Nat) : Int) := by push_cast; rfl
    rw [this, Int.toNat_natCast]
  rw [Int.toNat_natCast, e] at this
  exact_mod_cast this
theorem and_two (m a b s : Nat) (hs : s = 2 ^ a ||| 2 ^ b) : m &&& s = (m / 2 ^ a % 2) * 2 ^ a ||| (m / 2 ^ b % 2) * 2 ^ b := by
  rw [hs, Nat.and_or_distrib_left, and_bit, and_bit]
theorem b01 (n : Nat) : n % 2 = 0 ∨ n % 2 = 1 := Nat.mod_two_eq_zero_or_one n
/-- a right told by one bit -/
theorem pick1 {m i k : Nat} {a : Addr} {ch : Str} (hi : i ≠ 0) : pickC i (m : Int) [(a, ((2 ^ k : Nat) : Int), ch)] = if m / 2 ^ k % 2 = 1 then ch else Str.ofString "-" := by
  have e : Builtin.bitAnd (m : Int) ((2 ^ k : Nat) : Int) = ((m &&& 2 ^ k : Nat) : Int) := by rw [bitAnd_pp (Int.natCast_nonneg _) (Int.natCast_nonneg _), Int.toNat_natCast, Int.toNat_natCast]
  have hp : 0 < 2 ^ k := Nat.pow_pos (by decide)
  simp only [pickC, if_neg hi, e, and_bit, Int.natCast_inj]
  rcases b01 (m / 2 ^ k) with h | h
  · rw [h, Nat.zero_mul, if_neg (Nat.ne_of_lt hp), if_neg (by decide)]
  · rw [h, Nat.one_mul, if_pos rfl, if_pos rfl]
/-- by two -/
theorem pick2 {m i a b s : Nat} {x y z : Addr} {c1 c2 c3 : Str} (hi : i ≠ 0) (hs : s = 2 ^ b ||| 2 ^ a) (h1 : 2 ^ a ≠ s) (h2 : 2 ^ b ≠ s) (h3 : s ≠ 0) : pickC i (m : Int) [(x, (s : Int), c1), (y, ((2 ^ b : Nat) : Int), c2), (z, ((2 ^ a : Nat) : Int), c3)] =
    if m / 2 ^ a % 2 = 1 then (if m / 2 ^ b % 2 = 1 then c1 else c3) else if m / 2 ^ b % 2 = 1 then c2 else Str.ofString "-" := by
  have e : ∀ t : Nat, Builtin.bitAnd (m : Int) (t : Int) = ((m &&& t : Nat) : Int) := fun t => by rw [bitAnd_pp (Int.natCast_nonneg _) (Int.natCast_nonneg _), Int.toNat_natCast, Int.toNat_natCast]
  have hpa : 0 < 2 ^ a := Nat.pow_pos (by decide)
  have hpb : 0 < 2 ^ b := Nat.pow_pos (by decide)
  have n1 : (0 : Nat) ≠ 2 ^ b := Nat.ne_of_lt hpb
  have n2 : (0 : Nat) ≠ 2 ^ a := Nat.ne_of_lt hpa
  have n3 := Ne.symm h3
  simp only [pickC, if_neg hi, e, and_bit, and_two m b a s hs, Int.natCast_inj]
  rcases b01 (m / 2 ^ a) with ha | ha <;> rcases b01 (m / 2 ^ b) with hb | hb <;>
    simp only [ha, hb, Nat.zero_mul, Nat.one_mul, Nat.zero_or, Nat.or_zero, ← hs, h1, h2, n1, n2, n3, if_true, if_false, Nat.zero_ne_one, ne_eq, not_false_eq_true]
theorem bit_mode {K r k : Nat} (hk : k < 12) : (K * 4096 + r) / 2 ^ k % 2 = r / 2 ^ k % 2 := by
  have h : 2 ^ k * (2 * 2 ^ (11 - k)) = 4096 := by rw [← Nat.pow_succ', ← Nat.pow_add, show k + (11 - k + 1) = 12 from by omega]
  rw [← h, Nat.mul_left_comm K, Nat.mul_left_comm K, Nat.mul_add_div (Nat.pow_pos (by decide)), Nat.mul_add_mod]
theorem rt_sum {row : Str} {r : Nat} : ∀ n, (∀ i, i < n → rHit row i = decide (r / 2 ^ i % 2 = 1)) → (rtL row n).sum = ((r % 2 ^ n : Nat) : Int)
  | 0, _ => by rw [Nat.pow_zero, Nat.mod_one]; rfl
  | n + 1, h => by
    rw [rtL, List.sum_append, rt_sum n fun i hi => h i (Nat.lt_succ_of_lt hi), h n (Nat.lt_succ_self n), Nat.pow_succ, Nat.mod_mul]
    rcases b01 (r / 2 ^ n) with q | q
    · rw [q, if_neg (by decide), List.sum_nil, Nat.mul_zero]; rfl
    · rw [q, if_pos (by decide), Nat.mul_one]
      simp
theorem one_if {p : Prop} [Decidable p] {a b : Nat} : (if p then (⟨#[a]⟩ : Str) else ⟨#[b]⟩) = ⟨#[if p then a else b]⟩ := by split <;> rfl
theorem mode_fmt {K r : Nat} (hK : K < 16) (hr : r < 4096) : Builtin.bitAnd ((K * 4096 + r : Nat) : Int) 61440 = ((K * 4096 : Nat) : Int) := by
  rw [bitAnd_pp (Int.natCast_nonneg _) (by decide), Int.toNat_natCast]
  have : (K * 4096 + r) &&& 61440 = K * 4096 := by
    apply Nat.eq_of_testBit_eq
    intro i
    rw [Nat.testBit_and, show 61440 = 15 * 2 ^ 12 from rfl, show 4096 = 2 ^ 12 from rfl, Nat.testBit_mul_two_pow, Nat.testBit_mul_two_pow]
    by_cases hi : 12 ≤ i
    · rw [Nat.mul_comm, Nat.testBit_two_pow_mul_add _ hr, if_neg (Nat.not_lt.mpr hi)]
      simp only [hi, decide_true, Bool.true_and]
      have h4 : ∀ j, (K.testBit j && (15 : Nat).testBit j) = K.testBit j := by
        intro j
        by_cases hj : j < 4
        · have : (15 : Nat).testBit j = true := by
            have : ∀ j, j < 4 → (15 : Nat).testBit j = true := by decide
            exact this j hj
          rw [this, Bool.and_true]
        · have : K.testBit j = false := Nat.testBit_lt_two_pow (Nat.lt_of_lt_of_le hK (Nat.pow_le_pow_right (show 0 < 2 by decide) (Nat.not_lt.mp hj)))
          rw [this, Bool.false_and]
      exact h4 _
    · simp [hi]
  exact congrArg Int.ofNat this
/-- the row of a mode -/
theorem row_text {m x : Nat} (hx : x < 7) (h0 : Builtin.bitAnd (m : Int) 61440 = kindT.getD x 0 * 4096) : ∃ a, ltrs.getD x "" = ⟨#[a]⟩ ∧ rowS (m : Int) = ⟨#[a, if m / 2 ^ 8 % 2 = 1 then 114 else 45, if m / 2 ^ 7 % 2 = 1 then 119 else 45,
    if m / 2 ^ 6 % 2 = 1 then (if m / 2 ^ 11 % 2 = 1 then 115 else 120) else if m / 2 ^ 11 % 2 = 1 then 83 else 45, if m / 2 ^ 5 % 2 = 1 then 114 else 45, if m / 2 ^ 4 % 2 = 1 then 119 else 45,
    if m / 2 ^ 3 % 2 = 1 then (if m / 2 ^ 10 % 2 = 1 then 115 else 120) else if m / 2 ^ 10 % 2 = 1 then 83 else 45, if m / 2 ^ 2 % 2 = 1 then 114 else 45, if m / 2 ^ 1 % 2 = 1 then 119 else 45,
    if m / 2 ^ 0 % 2 = 1 then (if m / 2 ^ 9 % 2 = 1 then 116 else 120) else if m / 2 ^ 9 % 2 = 1 then 84 else 45]⟩ := by
  have e1 : pickC 1 (m : Int) [(93, 256, "r")] = _ := pick1 (k := 8) (by decide)
  have e2 : pickC 2 (m : Int) [(95, 128, "w")] = _ := pick1 (k := 7) (by decide)
  have e3 : pickC 3 (m : Int) [(97, 2112, "s"), (98, 2048, "S"), (99, 64, "x")] = _ := pick2 (a := 6) (b := 11) (s := 2112) (by decide) rfl (by decide) (by decide) (by decide)
  have e4 : pickC 4 (m : Int) [(101, 32, "r")] = _ := pick1 (k := 5) (by decide)
  have e5 : pickC 5 (m : Int) [(103, 16, "w")] = _ := pick1 (k := 4) (by decide)
  have e6 : pickC 6 (m : Int) [(105, 1032, "s"), (106, 1024, "S"), (107, 8, "x")] = _ := pick2 (a := 3) (b := 10) (s := 1032) (by decide) rfl (by decide) (by decide) (by decide)
  have e7 : pickC 7 (m : Int) [(109, 4, "r")] = _ := pick1 (k := 2) (by decide)
  have e8 : pickC 8 (m : Int) [(111, 2, "w")] = _ := pick1 (k := 1) (by decide)
  have e9 : pickC 9 (m : Int) [(113, 513, "t"), (114, 512, "T"), (115, 1, "x")] = _ := pick2 (a := 0) (b := 9) (s := 513) (by decide) rfl (by decide) (by decide) (by decide)
  have e0 : pickC 0 (m : Int) [(85, 40960, "l"), (86, 49152, "s"), (87, 32768, "-"), (88, 24576, "b"), (89, 16384, "d"), (90, 8192, "c"), (91, 4096, "p")] = ltrs.getD x "" := by
    simp only [pickC, if_true, h0]
    have : ∀ x, x < 7 → (if kindT.getD x 0 * 4096 = 40960 then ("l" : Str) else if kindT.getD x 0 * 4096 = 49152 then "s" else if kindT.getD x 0 * 4096 = 32768 then "-" else if kindT.getD x 0 * 4096 = 24576 then "b" else if kindT.getD x 0 * 4096 = 16384 then "d" else if kindT.getD x 0 * 4096 = 8192 then "c" else if kindT.getD x 0 * 4096 = 4096 then "p" else "?") = ltrs.getD x "" := by decide
    exact this x hx
  obtain ⟨a, ha⟩ : ∃ a, ltrs.getD x "" = ⟨#[a]⟩ := by
    have : ∀ x, x < 7 → ltrs.getD x "" = ⟨#[(ltrs.getD x "").cps.getD 0 0]⟩ := by decide
    exact ⟨_, this x hx⟩
  refine ⟨a, ha, ?_⟩
  have s1 : ∀ (p : Prop) [Decidable p] (c : Str) (d : Nat), c = ⟨#[d]⟩ → (if p then c else Str.ofString "-") = ⟨#[if p then d else 45]⟩ := by
    rintro p _ _ d rfl; split <;> rfl
  have s2 : ∀ (p q : Prop) [Decidable p] [Decidable q] (c1 c2 c3 : Str) (d1 d2 d3 : Nat), c1 = ⟨#[d1]⟩ → c2 = ⟨#[d2]⟩ → c3 = ⟨#[d3]⟩ → (if p then (if q then c1 else c3) else if q then c2 else Str.ofString "-") = ⟨#[if p then (if q then d1 else d3) else if q then d2 else 45]⟩ := by
    rintro p q _ _ _ _ _ d1 d2 d3 rfl rfl rfl; split <;> split <;> rfl
  show Txt.join "" [pickC 0 (m : Int) [(85, 40960, "l"), (86, 49152, "s"), (87, 32768, "-"), (88, 24576, "b"), (89, 16384, "d"), (90, 8192, "c"), (91, 4096, "p")], pickC 1 (m : Int) [(93, 256, "r")], pickC 2 (m : Int) [(95, 128, "w")], pickC 3 (m : Int) [(97, 2112, "s"), (98, 2048, "S"), (99, 64, "x")],
    pickC 4 (m : Int) [(101, 32, "r")], pickC 5 (m : Int) [(103, 16, "w")], pickC 6 (m : Int) [(105, 1032, "s"), (106, 1024, "S"), (107, 8, "x")], pickC 7 (m : Int) [(109, 4, "r")], pickC 8 (m : Int) [(111, 2, "w")], pickC 9 (m : Int) [(113, 513, "t"), (114, 512, "T"), (115, 1, "x")]] = _
  rw [e0, e1, e2, e3, e4, e5, e6, e7, e8, e9, ha, s1 _ "r" 114 rfl, s1 _ "w" 119 rfl, s1 _ "r" 114 rfl, s1 _ "w" 119 rfl, s1 _ "r" 114 rfl, s1 _ "w" 119 rfl, s2 _ _ "s" "S" "x" 115 83 120 rfl rfl rfl, s2 _ _ "s" "S" "x" 115 83 120 rfl rfl rfl, s2 _ _ "t" "T" "x" 116 84 120 rfl rfl rfl]
  rfl
theorem all_0 {P : Nat → Prop} : ∀ i, i < 0 → P i := fun i h => absurd h (Nat.not_lt_zero i)
theorem all_up {P : Nat → Prop} {n : Nat} (h : ∀ i, i < n → P i) (hn : P n) : ∀ i, i < n + 1 → P i := fun i hi => (Nat.lt_succ_iff_lt_or_eq.mp hi).elim (h i) fun e => e ▸ hn
theorem row_nat {K r x : Nat} (hx : x < 7) (hk : kindT.getD x 0 = (K : Int)) (hK : K < 16) (hr : r < 4096) : (rowS ((K * 4096 + r : Nat) : Int)).length = 10 ∧ Txt.item (rowS ((K * 4096 + r : Nat) : Int)) 0 = ltrs.getD x "" ∧ (rtL (rowS ((K * 4096 + r : Nat) : Int)) 12).sum = (r : Int) := by
  obtain ⟨a, ha, e⟩ := row_text (m := K * 4096 + r) hx (by rw [mode_fmt hK hr, hk]; exact Int.natCast_mul _ _)
  rw [e, ha]
  refine ⟨rfl, rfl, ?_⟩
  rw [bit_mode (k := 0) (by decide), bit_mode (k := 1) (by decide), bit_mode (k := 2) (by decide), bit_mode (k := 3) (by decide), bit_mode (k := 4) (by decide), bit_mode (k := 5) (by decide), bit_mode (k := 6) (by decide), bit_mode (k := 7) (by decide), bit_mode (k := 8) (by decide), bit_mode (k := 9) (by decide), bit_mode (k := 10) (by decide), bit_mode (k := 11) (by decide)]
  refine (rt_sum (r := r) 12 ?_).trans (by rw [show (2 : Nat) ^ 12 = 4096 from rfl, Nat.mod_eq_of_lt hr])
  have one : ∀ (k c : Nat) (mk : Str), Txt.contains mk ⟨#[c]⟩ = true → Txt.contains mk ⟨#[45]⟩ = false → Txt.contains mk ⟨#[if r / 2 ^ k % 2 = 1 then c else 45]⟩ = decide (r / 2 ^ k % 2 = 1) := by
    intro k c mk h1 h2
    rcases b01 (r / 2 ^ k) with h | h
    · rw [h, if_neg (by decide), h2]; rfl
    · rw [h, if_pos rfl, h1]; rfl
  have two : ∀ (k l c1 c2 c3 : Nat) (mk : Str) (b1 b2 : Bool), Txt.contains mk ⟨#[c1]⟩ = true → Txt.contains mk ⟨#[c3]⟩ = b1 → Txt.contains mk ⟨#[c2]⟩ = b2 → Txt.contains mk ⟨#[45]⟩ = false →
      Txt.contains mk ⟨#[if r / 2 ^ k % 2 = 1 then (if r / 2 ^ l % 2 = 1 then c1 else c3) else if r / 2 ^ l % 2 = 1 then c2 else 45]⟩ = ((decide (r / 2 ^ k % 2 = 1) && decide (r / 2 ^ l % 2 = 1)) || (decide (r / 2 ^ k % 2 = 1) && b1) || (decide (r / 2 ^ l % 2 = 1) && b2)) := by
    intro k l c1 c2 c3 mk b1 b2 h1 h2 h3 h4
    rcases b01 (r / 2 ^ k) with h | h <;> rcases b01 (r / 2 ^ l) with h' | h' <;> rw [h, h'] <;> simp [h1, h2, h3, h4]
  exact (all_up (all_up (all_up (all_up (all_up (all_up (all_up (all_up (all_up (all_up (all_up (all_up all_0 ((two 0 9 116 84 120 "xt" true false (by decide +kernel) (by decide +kernel) (by decide +kernel) (by decide +kernel)).trans (by cases decide (r / 2 ^ 0 % 2 = 1) <;> cases decide (r / 2 ^ 9 % 2 = 1) <;> rfl))) (one 1 119 "w" (by decide +kernel) (by decide +kernel))) (one 2 114 "r" (by decide +kernel) (by decide +kernel))) ((two 3 10 115 83 120 "xs" true false (by decide +kernel) (by decide +kernel) (by decide +kernel) (by decide +kernel)).trans (by cases decide (r / 2 ^ 3 % 2 = 1) <;> cases decide (r / 2 ^ 10 % 2 = 1) <;> rfl))) (one 4 119 "w" (by decide +kernel) (by decide +kernel))) (one 5 114 "r" (by decide +kernel) (by decide +kernel))) ((two 6 11 115 83 120 "xs" true false (by decide +kernel) (by decide +kernel) (by decide +kernel) (by decide +kernel)).trans (by cases decide (r / 2 ^ 6 % 2 = 1) <;> cases decide (r / 2 ^ 11 % 2 = 1) <;> rfl))) (one 7 119 "w" (by decide +kernel) (by decide +kernel))) (one 8 114 "r" (by decide +kernel) (by decide +kernel))) ((two 0 9 116 84 120 "tT" false true (by decide +kernel) (by decide +kernel) (by decide +kernel) (by decide +kernel)).trans (by cases decide (r / 2 ^ 0 % 2 = 1) <;> cases decide (r / 2 ^ 9 % 2 = 1) <;> rfl))) ((two 3 10 115 83 120 "sS" false true (by decide +kernel) (by decide +kernel) (by decide +kernel) (by decide +kernel)).trans (by cases decide (r / 2 ^ 3 % 2 = 1) <;> cases decide (r / 2 ^ 10 % 2 = 1) <;> rfl))) ((two 6 11 115 83 120 "sS" false true (by decide +kernel) (by decide +kernel) (by decide +kernel) (by decide +kernel)).trans (by cases decide (r / 2 ^ 6 % 2 = 1) <;> cases decide (r / 2 ^ 11 % 2 = 1) <;> rfl)))
theorem mode_nat (c : Int) : ∃ K r x : Nat, modeOf c = ((K * 4096 + r : Nat) : Int) ∧ x = (c / 4096 % 7).toNat ∧ x < 7 ∧ kindT.getD x 0 = (K : Int) ∧ K < 16 ∧ (r : Int) = c % 4096 ∧ r < 4096 := by
  have h1 := Int.emod_nonneg (c / 4096) (show (7 : Int) ≠ 0 by decide)
  have h2 := Int.emod_lt_of_pos (c / 4096) (show (0 : Int) < 7 by decide)
  have h3 := Int.emod_nonneg c (show (4096 : Int) ≠ 0 by decide)
  have h4 := Int.emod_lt_of_pos c (show (0 : Int) < 4096 by decide)
  have hx : (c / 4096 % 7).toNat < 7 := (Int.toNat_lt h1).mpr h2
  have key : ∀ x, x < 7 → kindT.getD x 0 = ((kindT.getD x 0).toNat : Int) ∧ (kindT.getD x 0).toNat < 16 := by decide
  obtain ⟨k1, k2⟩ := key _ hx
  refine ⟨_, (c % 4096).toNat, _, ?_, rfl, hx, k1, k2, Int.toNat_of_nonneg h3, (Int.toNat_lt h3).mpr h4⟩
  unfold modeOf
  rw [Int.natCast_add, Int.natCast_mul, ← k1, Int.toNat_of_nonneg h3]
  rfl
theorem row_ok (c : Int) : (rowS (modeOf c)).length = 10 ∧ Txt.item (rowS (modeOf c)) 0 = ltrs.getD (c / 4096 % 7).toNat "" ∧ (rtL (rowS (modeOf c)) 12).sum = c % 4096 := by
  obtain ⟨K, r, x, e, rfl, hx, hk, hK, hr, hr2⟩ := mode_nat c
  obtain ⟨a1, a2, a3⟩ := row_nat hx hk hK hr2
  rw [e]
  exact ⟨a1, a2, a3.trans hr⟩
theorem isdir_mode (c : Int) : (Builtin.bitAnd (modeOf c) 61440 == 16384) = decide (isD c) := by
  obtain ⟨K, r, x, e, hxe, hx, hk, hK, hr, hr2⟩ := mode_nat c
  have h1 := Int.emod_nonneg (c / 4096) (show (7 : Int) ≠ 0 by decide)
  rw [e, mode_fmt hK hr2, Int.natCast_mul, ← hk]
  have key : ∀ x, x < 7 → (kindT.getD x 0 * ((4096 : Nat) : Int) == 16384) = decide (x = 0) := by decide
  rw [key x hx]
  exact decide_eq_decide.mpr ⟨fun q => by show c / 4096 % 7 = 0; omega, fun q => by have : c / 4096 % 7 = 0 := q; omega⟩

section
variable {prog : Program} {w : World} {A : Around} {E : Value → Shared → Prop} {s : Shared} {h₀ : Heap} {L : Addr} {m : Str → Option Value} {news : Led}
noncomputable abbrev rngO (x left step : Int) : Obj := { cls := .type "range_iterator", data := .fields #[rawInt x, rawInt left, rawInt step] }
theorem rngIter {r : Addr} {a b c : Int} {t u v : Tok} {Q : Value → Shared → Prop} (F : Fr h₀ L s.heap m) (N : News h₀ L s.heap news) (hr : IsRange s.heap r a b c t u v) (hs : Builtin.Range.small a b c = true)
    (h : ∀ I h', Fr h₀ L h' m → News h₀ L h' ((I, rngO a (Builtin.Range.rangeSize a b c) c) :: news) → (∀ p ∈ news, p.1 < I) → L < I → Q (.ref I) { s with heap := h' }) : wpAny (model prog w) A (pyIter (.ref r)) Q E s :=
  wpAny_pyIter_range hr hs (h _ _ (F.push _) (N.push F _) (fun p hp => Heap.lt_size (N p hp).1) F.ns.lt)
theorem rngNext {I : Addr} {x left step : Int} {Q : Option Value → Shared → Prop} (F : Fr h₀ L s.heap m) (N : News h₀ L s.heap ((I, rngO x left step) :: news)) (hl : 0 < left) (h3 : ∀ p ∈ news, p.1 ≠ I)
    (h : ∀ h', Fr h₀ L h' m → News h₀ L h' ((I, rngO (x + step) (left - 1) step) :: news) → Q (some (.int x s.toks)) { s with heap := h', toks := s.toks + 1 }) : wpAny (model prog w) A (pyNext (.ref I)) Q E s := by
  have z := N _ (.head _)
  exact wpAny_pyNext_range_item z.1 hl fun h' hit hs => h h' (frBut F z hs) (N.setAt (own := []) (fun _ h => nomatch h) h3 hs hit)
theorem rngDone {I : Addr} {x left step : Int} {Q : Option Value → Shared → Prop} (hh : A.handled = none) (F : Fr h₀ L s.heap m) (N : News h₀ L s.heap ((I, rngO x left step) :: news)) (hl : left ≤ 0) (h3 : ∀ p ∈ news, p.1 ≠ I)
    (h : ∀ h', Fr h₀ L h' m → News h₀ L h' news → Q none { s with heap := h' }) : wpAny (model prog w) A (pyNext (.ref I)) Q E s := by
  have z := N _ (.head _)
  refine wpAny_pyNext_range_end hh z.1 hl fun h' hx => ?_
  refine h h' ⟨F.ns.extBut hx (Ne.symm z.2.1), fun b ob q => hx b ob (fun y => by rw [y, z.2.2] at q; cases q) (F.keep b ob q), F.above⟩ fun p hp => ?_
  have P := N p (.tail _ hp)
  exact ⟨hx _ _ (h3 p hp) P.1, P.2⟩
end
/-- the book, as the heap has it -/
noncomputable def BookAt (w : World) (D : Addr) (get : List Nat → Option Int) (h : Heap) : Prop := (D == sysModules) = false ∧ ∃ kvs, h.DictOf (strKind PR w) D kvs ∧
  ∀ ps, match get ps with
    | none => valueAt kvs (pthS ps) = none
    | some c => ∃ T t t', valueAt kvs (pthS ps) = some (.ref T) ∧ h.IsTuple T #[.str (rowS (modeOf c)) t, .int (c / 28672) t']
theorem BookAt.keep {w : World} {D : Addr} {get : List Nat → Option Int} {h h' : Heap} (x : BookAt w D get h) (k : ∀ b o, h.get? b = some o → h'.get? b = some o) : BookAt w D get h' := by
  obtain ⟨a, kvs, hd, hp⟩ := x
  refine ⟨a, kvs, hd.at (k D), fun ps => ?_⟩
  have := hp ps
  revert this
  cases get ps with
  | none => exact id
  | some c => rintro ⟨T, t, t', e, ht⟩; exact ⟨T, t, t', e, tupAt ht (k T)⟩
/-- a path one deeper: above + '/' + str(x) -/
theorem evPath {w : World} {p : Program} {loose : List Str} {mean : ExcName → Option Value} {mg mb : Str → Option Value} {A : Around} {E : Value → Shared → Prop} {s : Shared} {h₀ : Heap} {L a : Addr} {m : Str → Option Value} {cn : Str} {sc : Scope} {cd : Value} {cl : List (Str × Addr)}
    {x : Str} {t t' : Tok} {ps : List Nat} {j : Nat} {p1 p2 p3 p4 p5 p6 p7 : Pos} {k : Nat} {Q : Value → Shared → Prop} (F : Fr h₀ L s.heap m) (X : (hd.heap_1 w.params).In h₀) (T : Top p loose mean mg mb h₀) (hf : sc.kind = .function)
    (ha : sc.names.lookup ("above" : Str) = some .local) (hx : sc.names.lookup x = some .local) (hs : sc.names.lookup ("str" : Str) = some .globalImplicit) (hd : (x == ("__debug__" : Str)) = false) (h1 : m "above" = some (.str (pthS ps) t)) (h2 : m x = some (.int (j : Nat) t'))
    (hj : j < 10) (hl : ps.length ≤ 8) (h : ∀ t tk, Q (.str (pthS (ps ++ [j])) t) { s with toks := tk }) :
    wpAny (model PR w) A (eval (.BinOp (.BinOp (.Name "above" p1) .Add (.Constant (.str "/") k p2) p3) .Add (.Call (.Name "str" p4) [.Name x p5] [] p6) p7) (envX cn sc L a cd cl)) Q E s := by
  have hlen := pthS_len ps
  refine wpAny_BinOp (wpAny_BinOp (nameX_L F h1 (wpAny_Constant_str (SB.add (fun t1 k1 => ?_) ?_)) hf ha))
  · refine Call_Name1 (nameX_B F X (topRead_of T) (v := .type "str") (by k_is) (by boot_fast) (by decide) ?_ hf hs) rfl
    refine PyProof.Rows.callWith_type rfl (evalArgs_plain (spliced_cons (nameX_L F h2 (spliced_nil (PySem.P.str_of_int ?_ (SB.add (fun t2 k2 => ?_) ?_))) hf hx hd)))
    · exact Nat.lt_of_le_of_lt (Nat.log2_le_self _) (by omega)
    · rw [pth_add ps hj]; exact h t2 k2
    · rw [dig_str j hj]
      show (pthS ps ++ Str.ofString "/").length + 1 ≤ _
      rw [show (pthS ps ++ Str.ofString "/").length = (pthS ps).length + 1 from Array.size_append, hlen, sizeLine_eq]; omega
  · rw [hlen, sizeLine_eq]; show _ + 1 ≤ _; omega
theorem bookItem {w : World} {A : Around} {E : Value → Shared → Prop} {s : Shared} {value slice : PySem.Expr} {D T : Addr} {kvs : List (Str × Value)} {x : Str} {t : Tok} {Q : Value → Shared → Prop} (hm : s.heap.DictOf (strKind PR w) D kvs) (hv : valueAt kvs x = some (.ref T)) (h : Q (.ref T) { s with toks := s.toks + 1 })
    (hs : subscripted slice false (.ref D) (.str x t) = operate [.ref D, .str x t] (getItem (.ref D) (.str x t))) : wpAny (model PR w) A (subscriptTail value slice (.ref D) (.str x t)) Q E s :=
  tail_any hm.typeIs slot_dict_getitem.lookup (wpAny_getItem_of (knd := strKind PR w) (k := x) (by show (_ == _) = true; exact beq_self_eq_true _) hm.mapOf hv h) hs
/-- digits are few and small -/
noncomputable def DigOk (B : Int) (W k : Nat) : Prop := ∀ q, 0 ≤ q → B * q < B ^ k → intBits q ≤ 60000 ∧ (intBits q + W - 1) / W ≤ 64 ∧ ∃ e0, e0 ≤ 100000 ∧ (W ≤ 8900 ∨ e0 ≤ W + 4000) ∧ intBits (dval W (alt (dgs W q)).1) ≤ e0 ∧ intBits (dval W (alt (dgs W q)).2) ≤ e0
theorem find_k {c : Int} {x : Str} (h : x = ltrs.getD (c / 4096 % 7).toNat "") : Txt.find "d-lpcbs" x = c / 4096 % 7 := by
  have key : ∀ k, k < 7 → Txt.find "d-lpcbs" (ltrs.getD k "") = (k : Int) := by decide +kernel
  have h1 := Int.emod_nonneg (c / 4096) (show (7 : Int) ≠ 0 by decide)
  have h2 := Int.emod_lt_of_pos (c / 4096) (show (0 : Int) < 7 by decide)
  rw [h, key _ (by omega)]
  omega
theorem code_sum {c M x : Int} (h : 1 + c + x = M) : 1 + c % 4096 + 4096 * (c / 4096 % 7) + 28672 * (c / 28672) + x = M := by omega
theorem bits_div {c : Int} {m : Nat} (n : Int) (hn : 0 < n) (h : intBits c ≤ m) : intBits (c / n) ≤ m := by
  have := intBits_fdiv_le (y := n) h
  rwa [fdiv_pos hn] at this
theorem dig_lt {B M : Int} {k : Nat} (hB : 0 < B) (hM : 0 < M) (h : M < B ^ k) : B * qOf B M < B ^ k := by
  obtain ⟨_, _, h1, _, h2⟩ := q_facts hB hM
  omega
theorem head_d {c : Int} {x : Str} (h : x = ltrs.getD (c / 4096 % 7).toNat "") : x = "d" ↔ isD c := by
  have key : ∀ k, k < 7 → (ltrs.getD k "" = ("d" : Str) ↔ k = 0) := by decide
  have h1 := Int.emod_nonneg (c / 4096) (show (7 : Int) ≠ 0 by decide)
  have h2 := Int.emod_lt_of_pos (c / 4096) (show (0 : Int) < 7 by decide)
  rw [h, key _ (by omega)]
  show _ ↔ c / 4096 % 7 = 0
  omega
section
local macro_rules | `(tactic| walk_at "eval BinOp") => `(tactic| walk_at "stop")
local macro_rules | `(tactic| walk_at "call type:str") => `(tactic| walk_at "stop")
local macro_rules | `(tactic| walk_at "call builtin:str.index") => `(tactic| walk_at "stop")
local macro_rules | `(tactic| walk_at "exec If") => `(tactic| walk_at "stop")
local macro_rules | `(tactic| walk_at "compareOp In") => `(tactic| walk_at "stop")
local macro_rules | `(tactic| walk_at "subscriptTail") => `(tactic| walk_at "stop")
local macro_rules | `(tactic| walk_at "binaryOp Mult int int") => `(tactic| walk_at "stop")
theorem nm_j {n j k l : Nat} (h : n + j = l) (h1 : l ≤ k) (h2 : k ≤ 5) : j < 10 := Nat.lt_of_le_of_lt (Nat.le_trans (Nat.le_add_left j n) (Nat.le_trans (Nat.le_of_eq h) (Nat.le_trans h1 h2))) (by decide)
theorem nm_ps {x d : Nat} (h : x + (d + 1) ≤ 8) : x ≤ 8 := Nat.le_trans (Nat.le_add_right _ _) h
theorem nm_d1 (j : Nat) : -(2 : Int) ^ 62 ≤ (j : Int) - 1 := by omega
theorem nm_d2 {j : Nat} (h : j < 10) : (j : Int) - 1 < (2 : Int) ^ 62 := by omega
theorem nm_tn (j : Nat) : ((j : Int) - 1 - -1).toNat = j := by rw [Int.sub_neg, Int.sub_add_cancel]; rfl
theorem nm_s (i : Nat) : ((i + 1 : Nat) : Int) - 1 = (i : Int) := Int.add_sub_cancel (i : Int) 1
theorem nm_s2 (i : Nat) : ((i + 1 : Nat) : Int) - 1 + -1 = (i : Int) - 1 := congrArg (· + (-1)) (Int.add_sub_cancel (i : Int) 1)
theorem nm_up {n j k : Nat} (hn : 0 < n) (h : n + j = k) : n - 1 + (j + 1) = k := by
  cases n with
  | zero => exact absurd hn (Nat.lt_irrefl 0)
  | succ n => exact (Nat.succ_add n j).symm.trans h
theorem ct_law_number (w : World) (D : Addr) (get : List Nat → Option Int) (B : Int) (W k : Nat) (hB : 0 < B) (hW : 1 ≤ W) (hW2 : W ≤ 30000) (hk : k ≤ 5) (hBb : intBits B ≤ 7998) (hq : DigOk B W k) : ∀ (d : Nat) (N : Int) (ps : List Nat) (t1 t2 t3 : Tok), 0 ≤ N → N < B ^ k → Bk B W get k d N ps → ps.length + d ≤ 8 →
    Ct w 150 [.ref D, .int B t1, .int (W : Nat) t2, .str (pthS ps) t3] [] (BookAt w D get) (20 * d) (3 * d + 100) (IntPost N) := by
  intro d
  induction d with
  | zero => intro N ps t1 t2 t3 _ _ hb; exact hb.elim
  | succ d ih =>
  rintro N ps t1 t2 t3 hN0 hNB ⟨hb0, hb⟩ hps
  obtain ⟨l0, l1⟩ := lev_facts hB hW k N hN0 hNB
  refine ct_def (fr := [("above", .str (pthS ps) t3), ("width", .int (W : Nat) t2), ("bound", .int B t1), ("book", .ref D)]) (by with_unfolding_all rfl) (by with_unfolding_all rfl) (fun s => BindsTo.of_eq rfl) (locs rfl) rfl rfl rfl rfl (by decide) ?_
  intro p loose mean mg mb A dp un gd outer base g L' s h₁ hdp hun hpre hg F' N' hlt B' X' C1 C2 T' Q0 hQ0 A1 e1
  replace hpre : BookAt w D get g := hpre.keep fun b o e => hg b o e (fun q => nomatch q)
  clear hlt hg
  k_steps
  unfold Stop
  rename Fr _ _ _ _ => F2
  refine whileM (fun n m news => ∀ C : Prop, (∀ (j : Nat) tc tw tb, n + j = (lev B W k N).length → AllLk m [("count", .int (j : Nat) tc), ("above", .str (pthS ps) t3), ("width", .int (W : Nat) tw), ("bound", .int B tb), ("book", .ref D)] → news = [] → C) → C) F2 News.nil (fun _ k => k 0 _ _ _ rfl (allLk rfl) rfl) ?_
  clear F2
  intro n m₁ news₁ h₁ tk₁ F1 N1 hJ
  refine hJ _ ?_
  clear hJ
  rintro j tc tw tb hj hm rfl Q1 hQ1
  have hcnt0 := lev_len B W k N
  have hbk := (hpre.keep F1.keep)
  obtain ⟨hsys, kvs, hdd, hget⟩ := hbk
  replace F1 := frOv F1 hm
  clear hm
  refine wpAny_isTrue_Compare1 (evPath F1 X' T' rfl rfl rfl rfl rfl rfl rfl (nm_j hj hcnt0 hk) (nm_ps hps) fun t6 tk6 => ?_) rfl
  have hgj := hget (ps ++ [j])
  k_steps
  unfold Stop
  refine wpAny_in_of (knd := strKind PR w) (k := pthS (ps ++ [j])) (by show (_ == _) = true; exact beq_self_eq_true _) hsys hdd.mapOf ?_
  rcases Nat.eq_zero_or_pos n with rfl | hn
  · rw [show j = (lev B W k N).length from (Nat.zero_add j).symm.trans hj] at hgj ⊢
    rw [hb0] at hgj
    rw [hgj, Option.isSome_none]
    clear hget hgj
    k_steps
    unfold Stop
    refine wpAny_For ?_
    k_steps
    unfold Stop
    refine wpAny_BinOp ?_
    k_steps
    refine rngIter (by k_asm) (by k_asm) (by assumption) (small_down (nm_d1 j) (nm_d2 (nm_j hj hcnt0 hk)) (by decide) (by decide)) ?_
    intro I h6 F6 N6 l6 l7
    rw [rangeSize_downNat, nm_tn j] at N6
    have hjl : ((lev B W k N)[j]?).getD 0 = 0 := by rw [List.getElem?_eq_none (Nat.le_of_eq ((Nat.zero_add j).symm.trans hj).symm)]; rfl
    refine forM (n₀ := j) (fun n m news => ∀ C : Prop, (∀ tn tw tb, AllLk m [("number", .int (((lev B W k N)[n]?).getD 0) tn), ("above", .str (pthS ps) t3), ("width", .int (W : Nat) tw), ("bound", .int B tb), ("book", .ref D)] → n ≤ j → news = [(I, rngO ((n : Int) - 1) (n : Nat) (-1))] → C) → C) F6 N6 (fun _ k => k _ _ _ ⟨by rw [hjl]; rfl, rfl, rfl, rfl, rfl, trivial⟩ (Nat.le_refl _) rfl) ?_
    clear F6 N6 l6
    intro n m₂ news₂ h₂ tk₂ F3 N3 hJ
    refine hJ _ ?_
    clear hJ
    rintro tn tw2 tb2 hm hn rfl Q2 hQ2
    replace F3 := frOv F3 hm
    clear hm
    cases n with
    | zero =>
      refine rngDone rfl F3 N3 (Int.le_refl _) (fun _ h => nomatch h) ?_
      intro h7 F7 N7
      clear F3 N3
      k_steps
      rename Fr _ _ _ _ => F9
      exact leave hQ0 F9 News.nil (impI l0)
    | succ i =>
      have hil : i < (lev B W k N).length := Nat.lt_of_lt_of_le hn (Nat.le_of_eq ((Nat.zero_add j).symm.trans hj))
      have hi5 : i < 10 := Nat.lt_of_lt_of_le hil (Nat.le_trans hcnt0 (Nat.le_trans hk (by decide)))
      obtain ⟨M, hM⟩ : ∃ M, (lev B W k N)[i]? = some M := ⟨_, List.getElem?_eq_getElem hil⟩
      obtain ⟨hg1, hg2⟩ := hb i M hM
      obtain ⟨M0, MN, hnx⟩ := l1 i M hM
      refine rngNext F3 N3 (Int.natCast_pos.mpr (Nat.succ_pos i)) (fun _ h => nomatch h) ?_
      intro h7 F7 N7
      rw [nm_s2 i, nm_s i] at N7
      rw [nm_s i]
      rw [hnx] at F7
      clear F3 N3
      refine letName ?_
      k_steps
      unfold Stop
      refine evPath (by k_asm) X' T' rfl rfl rfl rfl rfl rfl rfl hi5 (nm_ps hps) fun t6 tk6 => ?_
      dsimp only
      k_steps
      unfold Stop
      rename Fr _ _ _ _ => F8
      rename News _ _ _ _ => N8
      obtain ⟨_, kvs, hdd, hget⟩ := hpre.keep F8.keep
      have hgi := hget (ps ++ [i])
      rw [hg1] at hgi
      obtain ⟨T, u1, u2, eT, hT⟩ := hgi
      refine bookItem hdd eT ?_ (by with_unfolding_all rfl)
      clear hget
      obtain ⟨r1, r2, r3⟩ := row_ok (cOf B M)
      generalize hrow : rowS (modeOf (cOf B M)) = row at *
      k_steps
      unfold Stop
      refine joinC (fun R1 => ∀ v1 v3 v5 v6 h tk m, Fr g L' h (ov [("number", .int (qOf B M) v1), ("row", .str row u1), ("size", .int (cOf B M / 28672) v3), ("above", .str (pthS ps) t3), ("width", .int (W : Nat) v5), ("bound", .int B v6), ("book", .ref D)] m) → News g L' h [(I, rngO ((i : Int) - 1) (i : Nat) (-1))] → R1 .next { s with heap := h, toks := tk }) ?_ ?_
      · intro R1 hR1
        refine wpAny_If ?_
        k_steps
        · rename (_ == _) = true => hd'
          have hdir : isD (cOf B M) := (head_d r2).mp (eq_of_beq hd')
          obtain ⟨⟨s0, s1⟩, _⟩ := sub_facts (W := W) hB hW M0
          have hqN := (q_facts hB M0).2.1
          unfold Stop
          refine evPath (by k_asm) X' T' rfl rfl rfl rfl rfl rfl rfl hi5 (nm_ps hps) fun t7 tk7 => ?_
          dsimp only
          k_steps
          unfold Stop
          rename Fr _ _ _ _ => F9
          rename News _ _ _ _ => N9
          refine useI (ih (sbn B W M) (ps ++ [i]) _ _ _ s0 (by omega) (hg2 hdir) (by rw [List.length_append, List.length_singleton]; omega)) B' F9 X' C1 C2 T' N9 rfl (rmD hdp (by omega)) (rmU hun (by omega)) (hpre.keep F9.keep) ?_
          intro t8 h5 tk5 F5 N5'
          clear F9 N9
          k_steps
          unfold Stop
          obtain ⟨_, g2, e0, g3, g4, g5, g6⟩ := hq (qOf B M) (q_facts hB M0).1 (dig_lt hB M0 (Int.lt_of_le_of_lt MN hNB))
          rw [show nx B W M = odn B W M from if_pos hdir]
          refine useI (ct_law_dealt w W e0 _ _ _ (dgs W (qOf B M)) hW2 g4 dgs_ok (by unfold dgs; rw [digs_length]; exact g2) g5 g6 g3) B' F5 X' C1 C2 T' N5' rfl (rmD hdp (by omega)) (rmU hun (by omega)) trivial ?_
          intro t9 h6 tk6 F6 N6'
          rw [dgs_val hW (q_facts hB M0).1]
          clear F5 N5'
          k_steps
          rename Fr _ _ _ _ => F9
          rename News _ _ _ _ => N9
          exact hR1 _ _ _ _ _ _ _ (frM F9 rfl) N9
        · rename (_ == _) = false => hd'
          rename Fr _ _ _ _ => F9
          rename News _ _ _ _ => N9
          have hnd : ¬ isD (cOf B M) := fun q => by rw [(head_d r2).mpr q, beq_self_eq_true] at hd'; cases hd'
          have e : nx B W M = qOf B M := if_neg hnd
          rw [e] at F9
          exact hR1 _ _ _ _ _ _ _ (frM F9 rfl) N9
      · intro v1 v3 v5 v6 h8 tk8 m8 F8' N8'
        k_steps
        unfold Stop
        refine wpAny_BinOp (wpAny_BinOp (wpAny_BinOp (wpAny_BinOp ?_)))
        k_steps
        unfold Stop
        refine useI (ct_law_rights w row _ r1) B' F8' X' C1 C2 T' N8' rfl (rmD hdp (by omega)) (rmU hun (by omega)) trivial ?_
        intro t8 h5 tk5 F5 N5'
        rw [r3]
        clear F8' N8'
        k_steps
        unfold Stop
        refine wpAny_BinOp ?_
        k_steps
        unfold Stop
        obtain ⟨q0, q1, q2, q3, q4⟩ := q_facts hB M0
        have hfk := find_k r2
        refine index_or rfl (fun e _ => absurd e (by rw [hfk]; omega)) (fun _ _ => ?_)
        rw [hfk]
        have kc : intBits (cOf B M) ≤ 7998 := bits_of_lt q2 (Int.lt_trans q3 (lt_of_bits hBb)) (Nat.le_refl _)
        k_steps
        unfold Stop
        refine mul_to (m := 13) (k := 64) (by decide) (intBits_le_64 (by omega) (by omega)) (by decide) rfl ?_
        k_steps
        unfold Stop
        refine wpAny_BinOp ?_
        k_steps
        unfold Stop
        refine mul_to (m := 15) (by decide) (bits_div 28672 (by decide) kc) (by decide) rfl ?_
        k_steps
        unfold Stop
        refine wpAny_BinOp ?_
        k_steps
        unfold Stop
        refine mul_to hBb (hq (qOf B M) q0 (dig_lt hB M0 (Int.lt_of_le_of_lt MN hNB))).1 (by decide) rfl ?_
        k_steps
        rename Fr _ _ _ _ => F9
        rename News _ _ _ _ => N9
        rw [code_sum q4] at F9
        exact hQ2 _ _ (FStep.intro (n' := i) F9 N9 (Nat.lt_succ_self _) fun _ k => k _ _ _ ⟨by rw [hM]; rfl, rfl, rfl, rfl, rfl, trivial⟩ (Nat.le_of_succ_le hn) rfl)
  · obtain ⟨M, hM⟩ : ∃ M, (lev B W k N)[j]? = some M := ⟨_, List.getElem?_eq_getElem (Nat.lt_of_lt_of_le (Nat.lt_add_of_pos_left hn) (Nat.le_of_eq hj))⟩
    rw [(hb j M hM).1] at hgj
    obtain ⟨T, u1, u2, eT, _⟩ := hgj
    rw [eT, Option.isSome_some]
    clear hget
    k_steps
    rename Fr _ _ _ _ => F2
    exact hQ1 _ _ (WStep.intro (n' := n - 1) F2 News.nil (Nat.sub_lt hn Nat.one_pos) fun _ k => k (j + 1) _ _ _ (nm_up hn hj) (allLk rfl) rfl)
end

theorem ints_alt : ∀ {vs : List Value} {ns : List Int}, IntsAre vs ns → IntsAre (alt vs).1 (alt ns).1 ∧ IntsAre (alt vs).2 (alt ns).2
  | _, _, .nil => ⟨.nil, .nil⟩
  | _, _, .cons n t h => ⟨.cons n t (ints_alt h).2, (ints_alt h).1⟩
theorem pick_alt : ∀ (l : List Value), ((List.range ((l.length + 1) / 2)).map (2 * ·)).filterMap (l[·]?) = (alt l).1 ∧ ((List.range (l.length / 2)).map (2 * · + 1)).filterMap (l[·]?) = (alt l).2
  | [] => ⟨rfl, rfl⟩
  | [x] => ⟨by simp [alt, List.range_succ], by simp [alt]⟩
  | x :: y :: r => by
    obtain ⟨a, b⟩ := pick_alt r
    have e1 : ((x :: y :: r).length + 1) / 2 = (r.length + 1) / 2 + 1 := Nat.add_div_right (r.length + 1) (show 0 < 2 by decide)
    have e2 : (x :: y :: r).length / 2 = r.length / 2 + 1 := Nat.add_div_right r.length (show 0 < 2 by decide)
    rw [e1, e2, List.range_succ_eq_map, List.range_succ_eq_map]
    simp only [alt, List.map_cons, List.map_map, List.filterMap_cons, Nat.mul_zero, Nat.zero_add, List.getElem?_cons_zero, List.getElem?_cons_succ, ← a, ← b, List.filterMap_map]
    exact ⟨rfl, rfl⟩
theorem half_a (n : Nat) : (if (0 : Int) < (n : Int) then ((n : Int) - 0 + 2 - 1) / 2 else 0).toNat = (n + 1) / 2 := by
  cases n with
  | zero => rfl
  | succ k =>
    rw [if_pos (Int.natCast_pos.mpr (Nat.succ_pos k)), Int.sub_zero, Int.add_sub_assoc]
    rfl
theorem half_b (n : Nat) : (if (1 : Int) < ((n + 1 : Nat) : Int) then (((n + 1 : Nat) : Int) - 1 + 2 - 1) / 2 else 0).toNat = (n + 1) / 2 := by
  cases n with
  | zero => rfl
  | succ k =>
    rw [if_pos (show (1 : Int) < ((k + 1 + 1 : Nat) : Int) from Int.ofNat_lt.mpr (Nat.succ_lt_succ (Nat.succ_pos k))), show ((k + 1 + 1 : Nat) : Int) - 1 = ((k + 1 : Nat) : Int) from Int.add_sub_cancel ((k + 1 : Nat) : Int) 1, Int.add_sub_assoc]
    rfl
theorem slice_alt0 (l : List Value) : (slicePick l.toArray (some 0) none (some 2)).toList = (alt l).1 := by
  rw [← (pick_alt l).1]
  unfold slicePick
  rw [show sliceBounds (some 0) none (some 2) l.toArray.size = (max 0 (min 0 (l.length : Int)), (l.length : Int), 2) from rfl, Int.min_eq_left (Int.natCast_nonneg _), Int.max_self]
  show List.filterMap _ (List.map _ (List.range (if (0 : Int) < (l.length : Int) then ((l.length : Int) - 0 + 2 - 1) / 2 else 0).toNat)) = _
  rw [half_a]
  simp only [List.getElem?_toArray]
  congr 1
  exact List.map_congr_left fun k _ => (congrArg Int.toNat (Int.zero_add (2 * (k : Int)))).trans rfl
theorem slice_alt1 : ∀ (l : List Value), (slicePick l.toArray (some 1) none (some 2)).toList = (alt l).2
  | [] => rfl
  | x :: r => by
    rw [← (pick_alt (x :: r)).2]
    unfold slicePick
    rw [show sliceBounds (some 1) none (some 2) (x :: r).toArray.size = (max 0 (min 1 ((r.length + 1 : Nat) : Int)), ((r.length + 1 : Nat) : Int), 2) from rfl, Int.min_eq_left (show (1 : Int) ≤ ((r.length + 1 : Nat) : Int) from Int.ofNat_le.mpr (Nat.succ_le_succ (Nat.zero_le r.length))), show max (0 : Int) 1 = 1 from rfl]
    show List.filterMap _ (List.map _ (List.range (if (1 : Int) < ((r.length + 1 : Nat) : Int) then (((r.length + 1 : Nat) : Int) - 1 + 2 - 1) / 2 else 0).toNat)) = _
    rw [half_b]
    simp only [List.getElem?_toArray]
    congr 1
    exact List.map_congr_left fun k _ => Nat.add_comm 1 (2 * k)

noncomputable def pthB (ps : List Nat) : Array UInt8 := ((pthN ps).map Nat.toUInt8).toArray
section
open Builtin
theorem enc_eq : ∀ (j : Nat), j < 6 → ∀ t u, «str.encode» ⟨[.str ⟨#[48 + j]⟩ t, .str (PySem.Str.ofString "ascii") u], []⟩ = (mkBytes #[(48 + j).toUInt8] >>= fun b => ret b)
  | 0, _ => fun t u => by kernel_rfl
  | 1, _ => fun t u => by kernel_rfl
  | 2, _ => fun t u => by kernel_rfl
  | 3, _ => fun t u => by kernel_rfl
  | 4, _ => fun t u => by kernel_rfl
  | 5, _ => fun t u => by kernel_rfl
theorem enc_dig {prog : Program} {w : World} {A : Around} {E : Value → Shared → Prop} {s : Shared} {j : Nat} {t u : Tok} {Q : Value → Shared → Prop} (hj : j < 6) (h : Q (.bytes #[(48 + j).toUInt8] s.toks) { s with toks := s.toks + 1 }) :
    wpAny (model prog w) A (call (.builtin "str.encode") [.str ⟨#[48 + j]⟩ t, .str (PySem.Str.ofString "ascii") u]) Q E s :=
  call_meets F.slot_str_encode (typeIs_str _ _ _) F.entry_str_encode (F.args_str_encode_2 _ _) (S := fun _ R s => R (.ok (.ret (.bytes #[(48 + j).toUInt8] s.toks))) { s with toks := s.toks + 1 })
    (.of_wp fun prog w A R s h => by
      rw [enc_eq j hj]
      exact wpAny_bind (wpAny_mkBytes (wpAny_pure ⟨_, rfl, h⟩) (by show 1 ≤ _; decide))) h
theorem dec_road {id : String} {b : Array UInt8} : _codecs.decodeRoad id b (PySem.Str.ofString "ascii") none [] = (_codecs.runDecoder id _codecs.asciiDecoder none true b 0 [] >>= fun r => mkStr ⟨r.1⟩) := by kernel_rfl
theorem dec_entry {c : UInt8} {cs : List UInt8} {t u : Tok} : «bytes.decode» ⟨[.bytes (c :: cs).toArray t, .str (PySem.Str.ofString "ascii") u], []⟩ = (mkStr (PySem.Str.ofString "utf-8") >>= fun _ => mkStr (PySem.Str.ofString "ascii") >>= fun e => mkStr (PySem.Str.ofString "bytes.decode") >>= fun d =>
    call (.builtin "_codecs.decode.text") [.bytes (c :: cs).toArray t, e, .none, d] >>= fun v => ret v) := by kernel_rfl
end

section
open Builtin Builtin._codecs
theorem forIn_run {σ : Type} {f : Nat → σ → Sem (ForInStep σ)} (st : Nat → σ) {n : Nat} (hf : ∀ x p, p < n → f x (st p) = pure (.yield (st (p + 1)))) : ∀ (xs : List Nat) (p : Nat), p + xs.length = n → forIn xs (st p) f = (pure (st n) : Sem σ)
  | [], p, h => by rw [List.forIn_nil, ← h]; rfl
  | x :: r, p, h => by
    rw [List.forIn_cons, hf x p (by rw [← h, List.length_cons]; omega), pure_bind]
    exact forIn_run st hf r (p + 1) (by rw [← h, List.length_cons]; omega)
theorem dec_at {l : List Nat} {p : Nat} (h : ∀ x ∈ l, x < 128) (hp : p < l.length) : (((l.map Nat.toUInt8).toArray.getD p 0).toNat) = l[p] ∧ l[p] < 128 := by
  have hx := h _ (List.getElem_mem hp)
  refine ⟨?_, hx⟩
  simp [Array.getD, hp]
  omega
theorem dec_run {id : String} (l : List Nat) (h : ∀ x ∈ l, x < 128) (hl : l.length ≤ 100) : runDecoder id asciiDecoder none true (l.map Nat.toUInt8).toArray 0 [] = pure (l.toArray, l.length) := by
  have hsz : (l.map Nat.toUInt8).toArray.size = l.length := by simp
  unfold runDecoder
  simp only [Std.Legacy.Range.forIn_eq_forIn_range', Std.Legacy.Range.size]
  have e0 : ((0 : Nat), (#[] : Array Nat), ({ } : Faults)) = (fun p => (p, (l.take p).toArray, ({ } : Faults))) 0 := rfl
  rw [e0, forIn_run (fun p => (p, (l.take p).toArray, ({ } : Faults))) (n := l.length) ?_ _ 0 (by simp), pure_bind, List.take_length]
  intro x p hp
  have h1 : ¬ (l.take p).toArray.size > sizeLine := by
    rw [List.size_toArray, List.length_take, sizeLine_eq]; omega
  obtain ⟨e1, e2⟩ := dec_at h hp
  have hfind : asciiDecoder.find true (l.map Nat.toUInt8).toArray p = .char l[p] (p + 1) := by
    show (if ((l.map Nat.toUInt8).toArray.getD p 0).toNat < 128 then _ else _) = _
    rw [e1, if_pos e2]
  dsimp only
  rw [if_neg h1, if_neg (by rw [hsz]; omega), hfind]
  show pure (ForInStep.yield (p + 1, (l.take p).toArray ++ [l[p]].toArray, ({ } : Faults))) = _
  rw [List.take_succ_eq_append_getElem hp]
  simp
theorem args_decode2 (a b : Value) : argsOk "bytes.decode" ⟨[a, b], []⟩ := by
  unfold argsOk; rw [signature?_of (id := "bytes.decode") (n := ['e', 'd', 'o', 'c', 'e', 'd']) (o := ['s', 'e', 't', 'y', 'b']) (by kernel_rfl) PySem.W.FB.owner_bytes]; kernel_rfl
theorem meets_decA {b : Array UInt8} {t t1 t2 : Tok} {d x : PySem.Str} {n : Nat} (hd : ∀ id, runDecoder id asciiDecoder none true b 0 [] = pure (x.cps, n)) :
    Meets («_codecs.decode.text» ⟨[.bytes b t, .str (PySem.Str.ofString "ascii") t1, .none, .str d t2], []⟩) (fun _ R s => x.length ≤ sizeLine ∧ R (.ok (.ret (.str x s.toks))) { s with toks := s.toks + 1 }) := by
  refine .of_wp fun prog w A R s hS => ?_
  obtain ⟨hsz, h⟩ := hS
  show wpAny _ _ (Bytes.bytesLike _ (.bytes b t) >>= fun r => _) _ _ s
  refine wpAny_bind (wpAny_of_eq KBd.like_eq ?_)
  refine wpAny_bind (wpAny_of_eq KBd.held_eq ?_)
  show wpAny _ _ (_codecs.decodeRoad _ b (PySem.Str.ofString "ascii") none [] >>= fun v => _) _ _ s
  rw [dec_road, hd]
  refine wpAny_bind (wpAny_bind (wpAny_pure ?_))
  exact wpAny_mkStr (wpAny_pure ⟨_, rfl, h⟩) hsz
theorem dec_path {prog : Program} {w : World} {A : Around} {E : Value → Shared → Prop} {s : Shared} {p : Nat} {ps : List Nat} {t u : Tok} {Q : Value → Shared → Prop} (hp : ∀ x ∈ pthN (p :: ps), x < 128) (hl : (pthN (p :: ps)).length ≤ 100) (h : ∀ t' k, Q (.str (pthS (p :: ps)) t') { s with toks := k }) :
    wpAny (model prog w) A (call (.builtin "bytes.decode") [.bytes (pthB (p :: ps)) t, .str (PySem.Str.ofString "ascii") u]) Q E s :=
  call_meets FB.slot_bytes_decode (typeIs_bytes _ _ _) FB.entry_bytes_decode (args_decode2 _ _) (S := fun _ R s => ∀ t' k, R (.ok (.ret (.str (pthS (p :: ps)) t'))) { s with toks := k })
    (.of_wp fun prog w A R s h => by
      have hz : (pthS (p :: ps)).length ≤ sizeLine := by
        show (pthN (p :: ps)).toArray.size ≤ _
        rw [List.size_toArray, sizeLine_eq]; omega
      show wpAny _ _ («bytes.decode» ⟨[.bytes ((47 : Nat).toUInt8 :: ((48 + p) :: pthN ps).map Nat.toUInt8).toArray t, .str (PySem.Str.ofString "ascii") u], []⟩) _ _ _
      rw [dec_entry]
      refine wpAny_bind (wpAny_mkStr ?_ (by decide))
      refine wpAny_bind (wpAny_mkStr ?_ (by decide))
      refine wpAny_bind (wpAny_mkStr ?_ (by decide))
      exact wpAny_bind (call_function_meets KBd.kind_text KBd.plain_text KBd.entry_text (KBd.args_text _ _ _ _) (meets_decA (x := pthS (p :: ps)) fun id => dec_run _ hp hl) ⟨hz, wpAny_pure ⟨_, rfl, h _ _⟩⟩)) h
end

noncomputable def PathV (z : Bool) (ps : List Nat) (v : Value) : Prop := match z with
  | true => ∃ t, v = .str (pthS ps) t
  | false => ∃ t, v = .bytes (pthB ps) t
noncomputable abbrev tup3 (a b c : Value) : Obj := { cls := .type "tuple", data := .seq #[a, b, c] }
/-- a row's tuple -/
noncomputable def FileAt (z : Bool) (tups : Led) (v : Value) (r : List Nat × Int) : Prop := ∃ a t t' pv, v = .ref a ∧ PathV z r.1 pv ∧ (a, tup3 (.str (rowS (modeOf r.2)) t) (.int (r.2 / 28672) t') pv) ∈ tups
inductive RowsAre (z : Bool) (tups : Led) : List Value → List (List Nat × Int) → Prop
  | nil : RowsAre z tups [] []
  | cons {v vs r rs} : FileAt z tups v r → RowsAre z tups vs rs → RowsAre z tups (v :: vs) (r :: rs)
theorem FileAt.mono {z : Bool} {tups tups' : Led} (h : ∀ p ∈ tups, p ∈ tups') {v : Value} {r : List Nat × Int} (x : FileAt z tups v r) : FileAt z tups' v r := x.elim fun a x => x.elim fun t x => x.elim fun t' x => x.elim fun pv x => ⟨a, t, t', pv, x.1, x.2.1, h _ x.2.2⟩
theorem RowsAre.mono {z : Bool} {tups tups' : Led} (h : ∀ p ∈ tups, p ∈ tups') {vs rs} (x : RowsAre z tups vs rs) : RowsAre z tups' vs rs := by
  induction x with
  | nil => exact .nil
  | cons a _ ih => exact .cons (a.mono h) ih
theorem RowsAre.app {z : Bool} {tups : Led} {vs' rs'} (h' : RowsAre z tups vs' rs') {vs rs} (x : RowsAre z tups vs rs) : RowsAre z tups (vs ++ vs') (rs ++ rs') := by
  induction x with
  | nil => exact h'
  | cons a _ ih => exact .cons a ih
theorem RowsAre.length {z : Bool} {tups : Led} : ∀ {vs rs}, RowsAre z tups vs rs → vs.length = rs.length
  | _, _, .nil => rfl
  | _, _, .cons _ r => congrArg (· + 1) r.length
/-- the lines so far, their rows' tuples, the two tables -/
noncomputable def LedOk (L cA cB : Addr) (z : Bool) (lst : Addr) (done : List (List Nat × Int)) (vals : List Value) (tups : Led) (oA ocA oB ocB : Obj) (cA' cB' : Addr) : Prop :=
  RowsAre z tups vals done ∧ TTPost cA cB L oA ocA oB ocB cA' cB' ∧ lst ≠ cA' ∧ lst ≠ cB' ∧ L < lst ∧ ∀ p ∈ tups, L < p.1 ∧ p.1 ≠ lst ∧ p.1 ≠ cA' ∧ p.1 ≠ cB'
noncomputable def LSt (L cA cB : Addr) (z : Bool) (lst : Addr) (done : List (List Nat × Int)) (core : Led) : Prop :=
  ∃ vals n0 tups oA ocA oB ocB cA' cB', core = (lst, listOf (List.toArray vals) n0) :: (tups ++ TT oA ocA oB ocB cA' cB') ∧ LedOk L cA cB z lst done vals tups oA ocA oB ocB cA' cB'
theorem LedOk.upd {L cA cB N : Addr} {z : Bool} {lst : Addr} {done vals tups oA ocA oB ocB c1 c2 oA' ocA' oB' ocB' c1' c2'} (h : LedOk L cA cB z lst done vals tups oA ocA oB ocB c1 c2) (hp : TTPost c1 c2 N oA' ocA' oB' ocB' c1' c2') (hl : lst < N) (ht : ∀ p ∈ tups, p.1 < N) :
    LedOk L cA cB z lst done vals tups oA' ocA' oB' ocB' c1' c2' := by
  obtain ⟨r, ⟨_, _, b3, b4, _⟩, h1, h2, h3, h4⟩ := h
  obtain ⟨a1, a2, a3, a4, a5⟩ := hp
  have k1 : ∀ x : Addr, x < N → x ≠ c1 → x ≠ c1' := fun x hx hc => a3.elim (fun e => e ▸ hc) fun e => Nat.ne_of_lt (Nat.lt_of_lt_of_le hx e)
  have k2 : ∀ x : Addr, x < N → x ≠ c2 → x ≠ c2' := fun x hx hc => a4.elim (fun e => e ▸ hc) fun e => Nat.ne_of_lt (Nat.lt_of_lt_of_le hx e)
  have hLN : L ≤ N := Nat.le_of_lt (Nat.lt_trans h3 hl)
  exact ⟨r, ⟨a1, a2, a3.elim (fun e => e ▸ b3) fun e => .inr (Nat.le_trans hLN e), a4.elim (fun e => e ▸ b4) fun e => .inr (Nat.le_trans hLN e), a5⟩, k1 _ hl h1, k2 _ hl h2, h3,
    fun p hp => ⟨(h4 p hp).1, (h4 p hp).2.1, k1 _ (ht p hp) (h4 p hp).2.2.1, k2 _ (ht p hp) (h4 p hp).2.2.2⟩⟩
section
variable {α : Type} {p x : α} {A B C D : List α}
theorem mem_r1 (h : p ∈ A ++ x :: B) : p ∈ x :: (B ++ A) := by simp only [List.mem_append, List.mem_cons] at h ⊢; exact h.elim (fun q => .inr (.inr q)) fun q => q.imp id .inl
theorem mem_r2 (h : p ∈ x :: (B ++ A)) : p ∈ A ++ x :: B := by simp only [List.mem_append, List.mem_cons] at h ⊢; exact h.elim (fun q => .inr (.inl q)) fun q => q.elim (fun q => .inr (.inr q)) .inl
theorem mem_r3 (h : p ∈ A ++ (D ++ x :: (B ++ C))) : p ∈ D ++ x :: (B ++ (A ++ C)) := by
  simp only [List.mem_append, List.mem_cons] at h ⊢
  rcases h with h | h | h | h | h <;> simp [h]
theorem mem_r4 (h : p ∈ D ++ x :: (B ++ (A ++ C))) : p ∈ A ++ (D ++ x :: (B ++ C)) := by
  simp only [List.mem_append, List.mem_cons] at h ⊢
  rcases h with h | h | h | h | h <;> simp [h]
theorem mem_r5 (h : p ∈ C ++ (D ++ x :: (B ++ A))) : p ∈ D ++ x :: (B ++ (A ++ C)) := by
  simp only [List.mem_append, List.mem_cons] at h ⊢
  rcases h with h | h | h | h | h <;> simp [h]
theorem mem_r7 {y : α} (h : p ∈ y :: (D ++ x :: ((B ++ C) ++ A))) : p ∈ (y :: (C ++ A)) ++ (D ++ x :: B) := by
  simp only [List.mem_append, List.mem_cons] at h ⊢
  rcases h with h | h | h | (h | h) | h <;> simp [h]
theorem mem_r6 (h : p ∈ D ++ x :: (B ++ (A ++ C))) : p ∈ C ++ (D ++ x :: (B ++ A)) := by
  simp only [List.mem_append, List.mem_cons] at h ⊢
  rcases h with h | h | h | h | h <;> simp [h]
end
/-- the tables' places -/
noncomputable def Tabs (L cA cB : Addr) : Prop := cA ≠ 37 ∧ cB ≠ 30 ∧ 30 < L ∧ 37 < L
theorem Tabs.ne37 {L cA cB x : Addr} (h : Tabs L cA cB) (hx : x = cA ∨ L ≤ x) : x ≠ 37 := hx.elim (fun e => e ▸ h.1) fun e q => Nat.lt_irrefl 37 (Nat.lt_of_lt_of_le h.2.2.2 (q ▸ e))
theorem Tabs.ne30 {L cA cB x : Addr} (h : Tabs L cA cB) (hx : x = cB ∨ L ≤ x) : x ≠ 30 := hx.elim (fun e => e ▸ h.2.1) fun e q => Nat.lt_irrefl 30 (Nat.lt_of_lt_of_le h.2.2.1 (q ▸ e))
theorem apartTT {cA cB L x cA' cB' : Addr} {oA ocA oB ocB : Obj} {T : Tabs L cA cB} (hL : L < x) (h1 : x ≠ cA') (h2 : x ≠ cB') : ∀ q ∈ TT oA ocA oB ocB cA' cB', q.1 ≠ x := by
  intro q hq
  simp only [TT, List.mem_cons, List.not_mem_nil, or_false] at hq
  rcases hq with rfl | rfl | rfl | rfl
  · exact Nat.ne_of_lt (Nat.lt_trans T.2.2.1 hL)
  · exact Ne.symm h1
  · exact Nat.ne_of_lt (Nat.lt_trans T.2.2.2 hL)
  · exact Ne.symm h2
section
variable {w : World} {p : Program} {loose : List Str} {mean : ExcName → Option Value} {mg mb : Str → Option Value} {dp un : Nat} {gd : Option (List Code)} {cn : Str} {cs : Scope} {a : Addr} {ccd : Value} {cl : List (Str × Addr)}
    {outer : List Env} {A₀ : Around} {base h₀ : Heap} {L : Addr} {m : Str → Option Value} {core : Led} {s : Shared} {Q E : Value → Shared → Prop} {cA cB lst : Addr} {z : Bool} {done : List (List Nat × Int)}
/-- int_divmod among the lines -/
theorem ln_dm {x y X Y : Int} {ta tb : Tok} (T : Tabs L cA cB) (hs : LSt L cA cB z lst done core)
    (C : ∀ oA ocA oB ocB cA' cB', TOKA oA cA' ocA → TOKB oB cB' ocB → cA' ≠ cB' → cA' ≠ 37 → cB' ≠ 30 → Ct w 56 [.int X ta, .int Y tb] (TT oA ocA oB ocB cA' cB') (fun _ => True) 120 700 (DMPost cA' cB' x y))
    (B : Below A₀ base outer h₀) (F : Fr h₀ L s.heap m) (X' : (hd.heap_1 w.params).In h₀) (C1 : CodeHd h₀ 41 37) (C2 : CodeHd h₀ 34 30) (T' : Top p loose mean mg mb h₀) (N : News h₀ L s.heap core) (hk : cs.kind = .function) (hd : dp + 120 < recursionLimit) (hu : un + 700 < cLine)
    (ret : ∀ r t t' core' h' tk', LSt L cA cB z lst done core' → Fr h₀ L h' m → News h₀ L h' ((r, tup2 x y t t') :: core') → L < r → (∀ q ∈ core', q.1 ≠ r) → Q (.ref r) { s with heap := h', toks := tk' }) :
    wpAny (model PR w) (ktrTop dp un gd cn cs L a ccd cl outer) (call (.ref 56) [.int X ta, .int Y tb]) Q E s := by
  obtain ⟨vals, n0, tups, oA, ocA, oB, ocB, c1, c2, rfl, hok⟩ := hs
  have hok' := hok
  obtain ⟨_, ⟨b1, b2, b3, b4, b5⟩, h1, h2, h3, h4⟩ := hok'
  refine useK (rest := (lst, listOf vals.toArray n0) :: tups) (C oA ocA oB ocB c1 c2 b1 b2 b5 (T.ne37 b3) (T.ne30 b4)) B F X' C1 C2 T' (news_sub N fun _ => mem_r1) ?_ hk hd hu trivial ?_
  · intro q hq q' hq'
    rcases List.mem_cons.mp hq' with rfl | hq'
    · exact apartTT (T := T) h3 h1 h2 q hq
    · exact apartTT (T := T) (h4 q' hq').1 (h4 q' hq').2.2.1 (h4 q' hq').2.2.2 q hq
  intro N0 h' tk' hlt F2 r t t' oA' ocA' oB' ocB' c1' c2' hr hp e5 e6 N2
  have hl : lst < N0 := hlt _ (.tail _ (List.mem_append_right _ (.head _)))
  have ht : ∀ p ∈ tups, p.1 < N0 := fun p hp => hlt p (.tail _ (List.mem_append_right _ (.tail _ hp)))
  have hLr : L < r := Nat.lt_of_lt_of_le (hlt _ (.head _)) hr
  refine ret r t t' _ h' tk' ⟨vals, n0, tups, oA', ocA', oB', ocB', c1', c2', rfl, hok.upd hp hl ht⟩ F2 (news_sub N2 fun q hq => ?_) hLr ?_
  · rcases List.mem_cons.mp hq with rfl | hq
    · exact .head _
    · exact .tail _ (mem_r2 hq)
  · intro q hq
    rcases List.mem_cons.mp hq with rfl | hq
    · exact Nat.ne_of_lt (Nat.lt_of_lt_of_le hl hr)
    · rcases List.mem_append.mp hq with hq | hq
      · exact Nat.ne_of_lt (Nat.lt_of_lt_of_le (ht q hq) hr)
      · exact apartTT (T := T) hLr e5 e6 q hq
noncomputable def Apart (L : Addr) (ext core : Led) : Prop := ∀ p ∈ ext, L < p.1 ∧ ∀ q ∈ core, q.1 ≠ p.1
/-- the same, some rows told besides -/
noncomputable def LStX (L cA cB : Addr) (z : Bool) (lst : Addr) (done : List (List Nat × Int)) (vs2 : List Value) (rs2 : List (List Nat × Int)) (core : Led) : Prop :=
  ∃ vals n0 tups oA ocA oB ocB cA' cB', core = (lst, listOf (List.toArray vals) n0) :: (tups ++ TT oA ocA oB ocB cA' cB') ∧ LedOk L cA cB z lst done vals tups oA ocA oB ocB cA' cB' ∧ RowsAre z tups vs2 rs2
/-- the digits of a number -/
theorem ln_i2d {q : Int} {W : Nat} {ta tb : Tok} (T : Tabs L cA cB) (hs : LSt L cA cB z lst done core) (hW : 1 ≤ W) (hW2 : W ≤ 30000) (hq : 0 ≤ q) (hb : intBits q ≤ 60000) (hn : (intBits q + W - 1) / W ≤ 64)
    (B : Below A₀ base outer h₀) (F : Fr h₀ L s.heap m) (X' : (hd.heap_1 w.params).In h₀) (C1 : CodeHd h₀ 41 37) (C2 : CodeHd h₀ 34 30) (T' : Top p loose mean mg mb h₀) (N : News h₀ L s.heap core) (hk : cs.kind = .function) (hd : dp + 70 < recursionLimit) (hu : un + 300 < cLine)
    (ret : ∀ dl dv n1 core' h' tk', LSt L cA cB z lst done core' → Fr h₀ L h' m → News h₀ L h' ((dl, listOf (List.toArray dv) n1) :: core') → IntsAre dv (dgs W q) → Apart L [(dl, listOf (List.toArray dv) n1)] core' → Q (.ref dl) { s with heap := h', toks := tk' }) :
    wpAny (model PR w) (ktrTop dp un gd cn cs L a ccd cl outer) (call (.ref 35) [.int q ta, .int (W : Nat) tb]) Q E s := by
  obtain ⟨vals, n0, tups, oA, ocA, oB, ocB, c1, c2, rfl, hok⟩ := hs
  have hok' := hok
  obtain ⟨_, ⟨b1, b2, b3, b4, b5⟩, h1, h2, h3, h4⟩ := hok'
  refine useK (rest := (lst, listOf vals.toArray n0) :: (tups ++ [(37, oB), (c2, ocB)])) (ct_int2digits w q W ta tb oA ocA c1 b1 hW hW2 hq hb hn) B F X' C1 C2 T' (news_sub N fun x hx => mem_r3 (D := []) (A := [_, _]) (C := [_, _]) hx) ?_ hk hd hu trivial ?_
  · intro q hq q' hq'
    have hT : q ∈ TT oA ocA oB ocB c1 c2 := List.mem_append_left _ hq
    rcases List.mem_cons.mp hq' with rfl | hq'
    · exact apartTT (T := T) h3 h1 h2 q hT
    · rcases List.mem_append.mp hq' with hq' | hq'
      · exact apartTT (T := T) (h4 q' hq').1 (h4 q' hq').2.2.1 (h4 q' hq').2.2.2 q hT
      · have e1 := T.ne37 b3
        have e2 := T.ne30 b4
        simp only [List.mem_cons, List.not_mem_nil, or_false] at hq hq'
        rcases hq with rfl | rfl <;> rcases hq' with rfl | rfl
        · exact fun e => nomatch e
        · exact Ne.symm e2
        · exact e1
        · exact b5
  intro N0 h' tk' hlt F2 dl dv n1 oA' c1' ocA' hr hI hTA hc hne N2
  have hl : lst < N0 := hlt _ (.tail _ (List.mem_append_right _ (.head _)))
  have ht : ∀ p ∈ tups, p.1 < N0 := fun p hp => hlt p (.tail _ (List.mem_append_right _ (.tail _ (List.mem_append_left _ hp))))
  have hc2 : c2 < N0 := hlt _ (.tail _ (List.mem_append_right _ (.tail _ (List.mem_append_right _ (.tail _ (.head _))))))
  have hLr : L < dl := Nat.lt_of_lt_of_le (hlt _ (.head _)) hr
  refine ret dl dv n1 _ h' tk' ⟨vals, n0, tups, oA', ocA', oB, ocB, c1', c2, rfl, hok.upd ⟨hTA, b2, hc, .inl rfl, ?_⟩ hl ht⟩ F2 (news_sub N2 fun x hx => ?_) hI ?_
  · exact hc.elim (fun e => e ▸ b5) fun e => Ne.symm (Nat.ne_of_lt (Nat.lt_of_lt_of_le hc2 e))
  · rcases List.mem_cons.mp hx with rfl | hx
    · exact .head _
    · exact .tail _ (mem_r4 (D := []) (A := [_, _]) (C := [_, _]) hx)
  · intro p hp
    rw [List.mem_singleton.mp hp]
    refine ⟨hLr, fun x hx => ?_⟩
    rcases List.mem_cons.mp hx with rfl | hx
    · exact Nat.ne_of_lt (Nat.lt_of_lt_of_le hl hr)
    · rcases List.mem_append.mp hx with hx | hx
      · exact Nat.ne_of_lt (Nat.lt_of_lt_of_le (ht x hx) hr)
      · exact apartTT (T := T) hLr hne (Nat.ne_of_gt (Nat.lt_of_lt_of_le hc2 hr)) x hx
/-- the digits' number -/
theorem ln_d2i {ext : Led} {sl : Addr} {dv : List Value} {ds : List Int} {n1 W : Nat} {tb : Tok} (T : Tabs L cA cB) (hs : LSt L cA cB z lst done core) (hA : Apart L ext core) (hm : (sl, listOf (List.toArray dv) n1) ∈ ext) (hI : IntsAre dv ds) (hW2 : W ≤ 30000) (hds : ∀ d ∈ ds, 0 ≤ d ∧ d < 2 ^ W) (hn : ds.length ≤ 64)
    (B : Below A₀ base outer h₀) (F : Fr h₀ L s.heap m) (X' : (hd.heap_1 w.params).In h₀) (C1 : CodeHd h₀ 41 37) (C2 : CodeHd h₀ 34 30) (T' : Top p loose mean mg mb h₀) (N : News h₀ L s.heap (ext ++ core)) (hk : cs.kind = .function) (hd : dp + 70 < recursionLimit) (hu : un + 300 < cLine)
    (ret : ∀ t core' h' tk', LSt L cA cB z lst done core' → Fr h₀ L h' m → News h₀ L h' (ext ++ core') → Apart L ext core' → Q (.int (dval W ds) t) { s with heap := h', toks := tk' }) :
    wpAny (model PR w) (ktrTop dp un gd cn cs L a ccd cl outer) (call (.ref 42) [.ref sl, .int (W : Nat) tb]) Q E s := by
  obtain ⟨vals, n0, tups, oA, ocA, oB, ocB, c1, c2, rfl, hok⟩ := hs
  have hok' := hok
  obtain ⟨_, ⟨b1, b2, b3, b4, b5⟩, h1, h2, h3, h4⟩ := hok'
  have hsl := hA _ hm
  have hTs : ∀ q ∈ TT oA ocA oB ocB c1 c2, q.1 ≠ sl := fun q hq => hsl.2 q (.tail _ (List.mem_append_right _ hq))
  refine useK (rest := ext ++ (lst, listOf vals.toArray n0) :: (tups ++ [(30, oA), (c1, ocA)])) (ct_digits2int w sl W tb oB ocB c2 dv ds b2 hI (fun d hd => bits_of_lt (hds d hd).1 (hds d hd).2 (Nat.le_trans hW2 (by decide))) hW2 hn (Ne.symm (hTs _ (.tail _ (.tail _ (.head _))))) (Ne.symm (hTs _ (.tail _ (.tail _ (.tail _ (.head _)))))))
    B F X' C1 C2 T' (news_sub N fun x hx => mem_r5 (A := [_, _]) (C := [_, _]) hx) ?_ hk hd hu (PySem.IsL.isList (n := n1) (N _ (List.mem_append_left _ hm)).1) ?_
  · intro q hq q' hq'
    have hT : q ∈ TT oA ocA oB ocB c1 c2 := List.mem_append_right [(30, oA), (c1, ocA)] hq
    rcases List.mem_append.mp hq' with hq' | hq'
    · exact (hA q' hq').2 q (.tail _ (List.mem_append_right _ hT))
    rcases List.mem_cons.mp hq' with rfl | hq'
    · exact apartTT (T := T) h3 h1 h2 q hT
    · rcases List.mem_append.mp hq' with hq' | hq'
      · exact apartTT (T := T) (h4 q' hq').1 (h4 q' hq').2.2.1 (h4 q' hq').2.2.2 q hT
      · have e1 := T.ne37 b3
        have e2 := T.ne30 b4
        simp only [List.mem_cons, List.not_mem_nil, or_false] at hq hq'
        rcases hq with rfl | rfl <;> rcases hq' with rfl | rfl
        · exact fun e => nomatch e
        · exact Ne.symm e1
        · exact e2
        · exact Ne.symm b5
  intro N0 h' tk' hlt F2 oB' c2' ocB' t' hTB hc N2
  have hl : lst < N0 := hlt _ (.tail _ (List.mem_append_right _ (List.mem_append_right _ (.head _))))
  have ht : ∀ p ∈ tups, p.1 < N0 := fun p hp => hlt p (.tail _ (List.mem_append_right _ (List.mem_append_right _ (.tail _ (List.mem_append_left _ hp)))))
  have he : ∀ p ∈ ext, p.1 < N0 := fun p hp => hlt p (.tail _ (List.mem_append_right _ (List.mem_append_left _ hp)))
  have hc1 : c1 < N0 := hlt _ (.tail _ (List.mem_append_right _ (List.mem_append_right _ (.tail _ (List.mem_append_right _ (.tail _ (.head _)))))))
  refine ret t' _ h' tk' ⟨vals, n0, tups, oA, ocA, oB', ocB', c1, c2', rfl, hok.upd ⟨b1, hTB, .inl rfl, hc, ?_⟩ hl ht⟩ F2 (news_sub N2 fun x hx => mem_r6 (A := [_, _]) (C := [_, _]) hx) ?_
  · exact hc.elim (fun e => e ▸ b5) fun e => Nat.ne_of_lt (Nat.lt_of_lt_of_le hc1 e)
  · intro p hp
    obtain ⟨k1, k2⟩ := hA p hp
    refine ⟨k1, fun x hx => ?_⟩
    rcases List.mem_cons.mp hx with rfl | hx
    · exact k2 _ (.head _)
    · rcases List.mem_append.mp hx with hx | hx
      · exact k2 _ (.tail _ (List.mem_append_left _ hx))
      · refine apartTT (T := T) k1 (Ne.symm (k2 (c1, ocA) (.tail _ (List.mem_append_right _ (.tail _ (.head _)))))) ?_ x hx
        have := Ne.symm (k2 (c2, ocB) (.tail _ (List.mem_append_right _ (.tail _ (.tail _ (.tail _ (.head _)))))))
        exact hc.elim (fun e => e ▸ this) fun e => Nat.ne_of_lt (Nat.lt_of_lt_of_le (he p hp) e)
/-- what the lines' def gives -/
noncomputable abbrev LinesPost (cA cB : Addr) (z : Bool) (rows : List (List Nat × Int)) := Imp fun N M => ∀ lst vals n0 tups oA ocA oB ocB cA' cB', N ≤ lst → RowsAre z tups vals rows → TTPost cA cB N oA ocA oB ocB cA' cB' → lst ≠ cA' → lst ≠ cB' → (∀ p ∈ tups, N ≤ p.1 ∧ p.1 ≠ lst ∧ p.1 ≠ cA' ∧ p.1 ≠ cB') → M (.ref lst) ((lst, listOf (List.toArray vals) n0) :: (tups ++ TT oA ocA oB ocB cA' cB'))
/-- the lines' def within itself -/
theorem ln_rec {vs : List Value} {rows : List (List Nat × Int)} {dd uu : Nat} (T : Tabs L cA cB) (hs : LSt L cA cB z lst done core)
    (C : ∀ oA ocA oB ocB cA' cB', TOKA oA cA' ocA → TOKB oB cB' ocB → cA' ≠ cB' → cA' ≠ 37 → cB' ≠ 30 → Ct w 131 vs (TT oA ocA oB ocB cA' cB') (fun _ => True) dd uu (LinesPost cA' cB' z rows))
    (B : Below A₀ base outer h₀) (F : Fr h₀ L s.heap m) (X' : (hd.heap_1 w.params).In h₀) (C1 : CodeHd h₀ 41 37) (C2 : CodeHd h₀ 34 30) (T' : Top p loose mean mg mb h₀) {ext : Led} (hA : Apart L ext core) (N : News h₀ L s.heap (ext ++ core)) (hk : cs.kind = .function) (hd : dp + dd < recursionLimit) (hu : un + uu < cLine)
    (ret : ∀ l2 v2 n2 core' h' tk', LStX L cA cB z lst done v2 rows core' → Fr h₀ L h' m → News h₀ L h' ((l2, listOf (List.toArray v2) n2) :: (ext ++ core')) → Apart L ((l2, listOf (List.toArray v2) n2) :: ext) core' → Q (.ref l2) { s with heap := h', toks := tk' }) :
    wpAny (model PR w) (ktrTop dp un gd cn cs L a ccd cl outer) (call (.ref 131) vs) Q E s := by
  obtain ⟨vals, n0, tups, oA, ocA, oB, ocB, c1, c2, rfl, hok⟩ := hs
  have hok' := hok
  obtain ⟨_, ⟨b1, b2, b3, b4, b5⟩, h1, h2, h3, h4⟩ := hok'
  refine useK (rest := ext ++ ((lst, listOf vals.toArray n0) :: tups)) (C oA ocA oB ocB c1 c2 b1 b2 b5 (T.ne37 b3) (T.ne30 b4)) B F X' C1 C2 T' (news_sub N fun x hx => ?_) ?_ hk hd hu trivial ?_
  · rcases List.mem_append.mp hx with hx | hx
    · exact List.mem_append_right _ (.tail _ (List.mem_append_right _ hx))
    · rcases List.mem_append.mp hx with hx | hx
      · exact List.mem_append_left _ hx
      · exact List.mem_append_right _ (mem_r1 (A := TT oA ocA oB ocB c1 c2) (List.mem_append_right _ hx))
  · intro q hq q' hq'
    rcases List.mem_append.mp hq' with hq' | hq'
    · exact (hA q' hq').2 q (.tail _ (List.mem_append_right _ hq))
    rcases List.mem_cons.mp hq' with rfl | hq'
    · exact apartTT (T := T) h3 h1 h2 q hq
    · exact apartTT (T := T) (h4 q' hq').1 (h4 q' hq').2.2.1 (h4 q' hq').2.2.2 q hq
  intro N0 h' tk' hlt F2 l2 v2 n2 tups2 oA' ocA' oB' ocB' c1' c2' hr hR hpT e5 e6 e7 N2
  have hl : lst < N0 := hlt _ (.tail _ (List.mem_append_right _ (List.mem_append_right _ (.head _))))
  have ht : ∀ p ∈ tups, p.1 < N0 := fun p hp => hlt p (.tail _ (List.mem_append_right _ (List.mem_append_right _ (.tail _ hp))))
  have he : ∀ p ∈ ext, p.1 < N0 := fun p hp => hlt p (.tail _ (List.mem_append_right _ (List.mem_append_left _ hp)))
  have hLN : L < N0 := hlt _ (.head _)
  obtain ⟨u1, u2, u3, u4, u5, u6⟩ := hok.upd hpT hl ht
  refine ret l2 v2 n2 _ h' tk' ⟨vals, n0, tups ++ tups2, oA', ocA', oB', ocB', c1', c2', rfl, ⟨u1.mono fun p hp => List.mem_append_left _ hp, u2, u3, u4, u5, fun p hp => ?_⟩, hR.mono fun p hp => List.mem_append_right _ hp⟩ F2 (news_sub N2 fun q hq => mem_r7 (A := TT oA' ocA' oB' ocB' c1' c2') hq) ?_
  · rcases List.mem_append.mp hp with hp | hp
    · exact u6 p hp
    · exact ⟨Nat.lt_of_lt_of_le hLN (e7 p hp).1, Nat.ne_of_gt (Nat.lt_of_lt_of_le hl (e7 p hp).1), (e7 p hp).2.2⟩
  · intro p hp
    rcases List.mem_cons.mp hp with rfl | hp
    · refine ⟨Nat.lt_of_lt_of_le hLN hr, fun x hx => ?_⟩
      rcases List.mem_cons.mp hx with rfl | hx
      · exact Nat.ne_of_lt (Nat.lt_of_lt_of_le hl hr)
      · rcases List.mem_append.mp hx with hx | hx
        · rcases List.mem_append.mp hx with hx | hx
          · exact Nat.ne_of_lt (Nat.lt_of_lt_of_le (ht x hx) hr)
          · exact (e7 x hx).2.1
        · exact apartTT (T := T) (Nat.lt_of_lt_of_le hLN hr) e5 e6 x hx
    · obtain ⟨k1, k2⟩ := hA p hp
      refine ⟨k1, fun x hx => ?_⟩
      rcases List.mem_cons.mp hx with rfl | hx
      · exact k2 _ (.head _)
      · rcases List.mem_append.mp hx with hx | hx
        · rcases List.mem_append.mp hx with hx | hx
          · exact k2 _ (.tail _ (List.mem_append_left _ hx))
          · exact Nat.ne_of_gt (Nat.lt_of_lt_of_le (he p hp) (e7 x hx).1)
        · refine apartTT (T := T) k1 ?_ ?_ x hx
          · have := Ne.symm (k2 (c1, ocA) (.tail _ (List.mem_append_right _ (.tail _ (.head _)))))
            exact hpT.2.2.1.elim (fun e => e ▸ this) fun e => Nat.ne_of_lt (Nat.lt_of_lt_of_le (he p hp) e)
          · have := Ne.symm (k2 (c2, ocB) (.tail _ (List.mem_append_right _ (.tail _ (.tail _ (.tail _ (.head _)))))))
            exact hpT.2.2.2.1.elim (fun e => e ▸ this) fun e => Nat.ne_of_lt (Nat.lt_of_lt_of_le (he p hp) e)
/-- more lines behind -/
theorem ln_ext {ext : Led} {l2 : Addr} {v2 : List Value} {n2 : Nat} {rows : List (List Nat × Int)} {A : Around} (T : Tabs L cA cB) (hs : LStX L cA cB z lst done v2 rows core) (hA : Apart L ext core) (hm : (l2, listOf (List.toArray v2) n2) ∈ ext) (F : Fr h₀ L s.heap m) (N : News h₀ L s.heap (ext ++ core)) (hz : done.length + rows.length ≤ 10000000)
    (ret : ∀ core' h', LSt L cA cB z lst (done ++ rows) core' → Fr h₀ L h' m → News h₀ L h' (ext ++ core') → Apart L ext core' → Q .none { s with heap := h' }) : wpAny (model PR w) A (call (.builtin "list.extend") [.ref lst, .ref l2]) Q E s := by
  obtain ⟨vals, n0, tups, oA, ocA, oB, ocB, c1, c2, rfl, ⟨u1, u2, u3, u4, u5, u6⟩, hR⟩ := hs
  refine extend_in (own := ext) F N (fun p hp => Ne.symm ((hA p hp).2 _ (.head _))) (fun p hp => ?_) (N _ (List.mem_append_left _ hm)).1 (fun h' n' F' N' => ret _ h' ⟨vals ++ v2, n', tups, oA, ocA, oB, ocB, c1, c2, rfl, hR.app u1, u2, u3, u4, u5, u6⟩ F' N' fun p hp => ⟨(hA p hp).1, fun q hq => ?_⟩) (by rw [u1.length, List.size_toArray, hR.length, sizeLine_eq]; omega)
  · rcases List.mem_append.mp hp with hp | hp
    · exact (u6 p hp).2.1
    · exact apartTT (T := T) u5 u3 u4 p hp
  · rcases List.mem_cons.mp hq with rfl | hq
    · exact (hA p hp).2 (lst, listOf vals.toArray n0) (.head _)
    · exact (hA p hp).2 q (.tail _ hq)
/-- one line behind -/
theorem ln_app {ta : Addr} {t1 t2 : Tok} {pv : Value} {r : List Nat × Int} {A : Around} (T : Tabs L cA cB) (hs : LSt L cA cB z lst done core) (hA : Apart L [(ta, tup3 (.str (rowS (modeOf r.2)) t1) (.int (r.2 / 28672) t2) pv)] core) (hpv : PathV z r.1 pv)
    (F : Fr h₀ L s.heap m) (N : News h₀ L s.heap ((ta, tup3 (.str (rowS (modeOf r.2)) t1) (.int (r.2 / 28672) t2) pv) :: core)) (hz : done.length ≤ 10000000)
    (ret : ∀ core' h', LSt L cA cB z lst (done ++ [r]) core' → Fr h₀ L h' m → News h₀ L h' core' → Q .none { s with heap := h' }) : wpAny (model PR w) A (call (.builtin "list.append") [.ref lst, .ref ta]) Q E s := by
  obtain ⟨vals, n0, tups, oA, ocA, oB, ocB, c1, c2, rfl, u1, u2, u3, u4, u5, u6⟩ := hs
  obtain ⟨k1, k2⟩ := hA _ List.mem_cons_self
  refine append_in (own := [(ta, _)]) F N (fun p hp => by rw [List.mem_singleton.mp hp]; exact Ne.symm (k2 _ (.head _))) (fun p hp => ?_) (fun h' F' N' => ret _ h' ⟨vals ++ [.ref ta], n0 + 1, (ta, _) :: tups, oA, ocA, oB, ocB, c1, c2, rfl, RowsAre.app (.cons ⟨ta, t1, t2, pv, rfl, hpv, .head _⟩ .nil) (u1.mono fun _ => .tail _), u2, u3, u4, u5, fun p hp => ?_⟩ F' (news_sub N' fun q hq => ?_)) (by rw [u1.length, sizeLine_eq]; omega)
  · rcases List.mem_append.mp hp with hp | hp
    · exact (u6 p hp).2.1
    · exact apartTT (T := T) u5 u3 u4 p hp
  · rcases List.mem_cons.mp hp with rfl | hp
    · exact ⟨k1, Ne.symm (k2 _ (.head _)), Ne.symm (k2 (c1, ocA) (.tail _ (List.mem_append_right _ (.tail _ (.head _))))), Ne.symm (k2 (c2, ocB) (.tail _ (List.mem_append_right _ (.tail _ (.tail _ (.tail _ (.head _)))))))⟩
    · exact u6 p hp
  · rcases List.mem_cons.mp hq with rfl | hq
    · exact .tail _ (.head _)
    · rcases List.mem_cons.mp hq with rfl | hq
      · exact .head _
      · exact .tail _ (.tail _ hq)
end

theorem joinFr {α : Type} {M : Model} {A : Around} {t : Sem α} {E : Value → Shared → Prop} {s : Shared} {Q : α → Shared → Prop} {g h₁ : Heap} {L : Addr} {m : Str → Option Value} (_F : Fr g L h₁ m) (P : (Heap → Prop) → (α → Shared → Prop) → Prop) (h1 : ∀ R1 : α → Shared → Prop, P (fun h => Fr g L h m) R1 → wpAny M A t R1 E s) (h2 : P (fun h => Fr g L h m) Q) : wpAny M A t Q E s := h1 Q h2
section
variable (B : Int) (W : Nat)
noncomputable def lnsG (sub : Int → List Nat → List (List Nat × Int)) : Nat → Int → Nat → List Nat → List (List Nat × Int)
  | 0, _, _, _ => []
  | k + 1, N, j, ps => if N ≤ 0 then [] else (ps ++ [j], cOf B N) :: ((if isD (cOf B N) then sub (sbn B W N) (ps ++ [j]) else []) ++ lnsG sub k (nx B W N) (j + 1) ps)
/-- the rows of a number's tree -/
noncomputable def lns : Nat → Int → List Nat → List (List Nat × Int)
  | 0, _, _ => []
  | d + 1, N, ps => lnsG B W (lns d) (d + 1) N 0 ps
noncomputable def bnd : Nat → Nat
  | 0 => 0
  | d + 1 => (d + 1) * (1 + bnd d)
theorem lnsG_len {sub : Int → List Nat → List (List Nat × Int)} {S : Nat} (h : ∀ N ps, (sub N ps).length ≤ S) : ∀ k N j ps, (lnsG B W sub k N j ps).length ≤ k * (1 + S)
  | 0, _, _, _ => Nat.zero_le _
  | k + 1, N, j, ps => by
    have ih := lnsG_len h k (nx B W N) (j + 1) ps
    have hs := h (sbn B W N) (ps ++ [j])
    rw [lnsG, Nat.succ_mul]
    split
    · exact Nat.zero_le _
    · split <;> simp only [List.length_cons, List.length_append, List.length_nil] <;> omega
theorem lns_len : ∀ d N ps, (lns B W d N ps).length ≤ bnd d
  | 0, _, _ => Nat.zero_le _
  | d + 1, N, ps => lnsG_len B W (lns_len d) (d + 1) N 0 ps
end
theorem bnd_le : ∀ d, d < 7 → bnd d ≤ 2000 := by decide
theorem Ct.up {w : World} {f : Addr} {vs : List Value} {foot : Led} {Pre : Heap → Prop} {dd uu dd' uu' : Nat} {Post : Nat → Value → Led → Prop} (h : Ct w f vs foot Pre dd uu Post) (h1 : dd ≤ dd') (h2 : uu ≤ uu') : Ct w f vs foot Pre dd' uu' Post :=
  fun p loose mean mg mb dp un gd cn cs aa ccd cl outer A₀ base h₀ L m rest s Q E B F X C1 C2 T hks N hdis hdd huu hpre hret =>
    h p loose mean mg mb dp un gd cn cs aa ccd cl outer A₀ base h₀ L m rest s Q E B F X C1 C2 T hks N hdis (Nat.lt_of_le_of_lt (Nat.add_le_add_left h1 _) hdd) (Nat.lt_of_le_of_lt (Nat.add_le_add_left h2 _) huu) hpre hret
noncomputable def zi : Bool → Int
  | true => 1
  | false => -1
theorem zi_sq (z : Bool) (c : Int) : zi z * (zi z * c) = c := by cases z <;> simp [zi]
theorem zi_bits (z : Bool) : intBits (zi z) ≤ 1 := by cases z <;> decide
theorem ct_dmz (w : World) (z : Bool) (M B X Y : Int) (ta tb : Tok) (oA ocA oB ocB : Obj) (cA cB : Addr) (hA : TOKA oA cA ocA) (hB : TOKB oB cB ocB) (hAB : cA ≠ cB) (hA37 : cA ≠ 37) (hB30 : cB ≠ 30)
    (ha : 0 ≤ M) (hab : intBits M ≤ 60000) (hb : 0 < B) (hbb : intBits B ≤ 7998) (hk : (intBits M + intBits B - 1) / intBits B ≤ 64) (hX : zi z * M = X) (hY : zi z * B = Y) :
    Ct w 56 [.int X ta, .int Y tb] (TT oA ocA oB ocB cA cB) (fun _ => True) 120 700 (DMPost cA cB (M / B) (zi z * (M % B))) := by
  cases z with
  | true =>
    obtain rfl : M = X := by rw [← hX]; exact (Int.one_mul M).symm
    obtain rfl : B = Y := by rw [← hY]; exact (Int.one_mul B).symm
    rw [show zi true * (M % B) = M % B from Int.one_mul _]
    exact (ct_int_divmod w M B ta tb oA ocA oB ocB cA cB hA hB hAB hA37 hB30 ha hab hb hbb hk).up (by decide) (by decide)
  | false =>
    rw [show zi false * (M % B) = -(M % B) from by rw [← Int.neg_one_mul]; rfl]
    exact ct_int_divmod_neg w M B X Y ta tb oA ocA oB ocB cA cB hA hB hAB hA37 hB30 ha hab hb hbb hk (by rw [← hX, ← Int.neg_one_mul]; rfl) (by rw [← hY, ← Int.neg_one_mul]; rfl)
theorem pow_le_of {B : Int} {d k : Nat} (hB : 0 < B) (h : d ≤ k) : B ^ d ≤ B ^ k := by
  obtain ⟨j, rfl⟩ : ∃ j, k = d + j := ⟨k - d, by omega⟩
  rw [Int.pow_add]
  have h1 : 0 < B ^ d := Int.pow_pos hB
  have h2 : 0 < B ^ j := Int.pow_pos hB
  have := Int.mul_le_mul_of_nonneg_left (show 1 ≤ B ^ j by omega) (Int.le_of_lt h1)
  omega
theorem kind_bits (k : Nat) : intBits (kindT.getD k 0) ≤ 64 := by
  by_cases h : k < 7
  · have : ∀ k, k < 7 → intBits (kindT.getD k 0) ≤ 64 := by decide
    exact this k h
  · rw [List.getD_eq_getElem?_getD, List.getElem?_eq_none (Nat.not_lt.mp h)]; decide
theorem imode {c : Int} (h : 0 ≤ c) : Builtin.bitAnd c 4095 = c % 4096 := by
  have := kbt_mask c 12
  exact this
theorem zi_ts {z : Bool} : (zi z = 1) ↔ z = true := by cases z <;> decide
/-- the loop's word -/
noncomputable def LnInv (B : Int) (W d : Nat) (N : Int) (ps : List Nat) (z : Bool) (av : Value) (L cA cB lst : Addr) (f : Nat) (m : Str → Option Value) (news : Led) : Prop :=
  ∀ C : Prop, (∀ (M : Int) (j : Nat) (done : List (List Nat × Int)) v1 v2 v3 v5 v6, AllLk m [("number", .int M v1), ("place", .int (j : Nat) v2), ("turn", .int (zi z) v3), ("lines", .ref lst), ("bound", .int B v5), ("width", .int (W : Nat) v6), ("above", av)] → LSt L cA cB z lst done news →
    done ++ lnsG B W (lns B W d) f M j ps = lns B W (d + 1) N ps → 0 ≤ M → M ≤ N → M < B ^ f → j + f = d + 1 → C) → C
noncomputable def SepV (z : Bool) (v : Value) : Prop := match z with
  | true => ∃ t, v = .str (Str.ofString "/") t
  | false => ∃ t, v = .bytes #[47] t
noncomputable def MidV (z : Bool) (ps : List Nat) (v : Value) : Prop := match z with
  | true => ∃ t, v = .str (pthS ps ++ Str.ofString "/") t
  | false => ∃ t, v = .bytes (pthB ps ++ #[47]) t
noncomputable def DigV (z : Bool) (j : Nat) (v : Value) : Prop := match z with
  | true => ∃ t, v = .str (Str.ofString (toString (j : Int))) t
  | false => ∃ t, v = .bytes #[(48 + j).toUInt8] t
theorem pthB_len (ps : List Nat) : (pthB ps).size = 2 * ps.length := by
  show ((pthN ps).map Nat.toUInt8).toArray.size = _
  rw [List.size_toArray, List.length_map, pthN_len]
theorem ln_sep {w : World} {p : Program} {loose : List Str} {mean : ExcName → Option Value} {mg mb : Str → Option Value} {dp un : Nat} {gd : Option (List Code)} {cn : Str} {cs : Scope} {a : Addr} {ccd : Value} {cl : List (Str × Addr)}
    {outer : List Env} {A₀ : Around} {base h₀ : Heap} {L : Addr} {m : Str → Option Value} {core : Led} {s : Shared} {Q E : Value → Shared → Prop} {z : Bool} {ps : List Nat} {av : Value} (hav : PathV z ps av)
    (B : Below A₀ base outer h₀) (F : Fr h₀ L s.heap m) (X' : (hd.heap_1 w.params).In h₀) (C1 : CodeHd h₀ 41 37) (C2 : CodeHd h₀ 34 30) (T' : Top p loose mean mg mb h₀) (N : News h₀ L s.heap core) (hk : cs.kind = .function) (hd : dp + 1 < recursionLimit) (hu : un + 20 < cLine)
    (ret : ∀ sv h' tk', SepV z sv → Fr h₀ L h' m → News h₀ L h' core → Q sv { s with heap := h', toks := tk' }) : wpAny (model PR w) (ktrTop dp un gd cn cs L a ccd cl outer) (call (.ref 63) [av]) Q E s := by
  cases z with
  | true =>
    obtain ⟨t, rfl⟩ := hav
    refine useV (ct_get_sep_s w _ t) B F X' C1 C2 T' N hk hd hu trivial ?_
    intro t6 h6 tk6 F6 N6
    exact ret _ h6 tk6 ⟨_, rfl⟩ F6 N6
  | false =>
    obtain ⟨t, rfl⟩ := hav
    refine useV (ct_get_sep_b w _ t) B F X' C1 C2 T' N hk hd hu trivial ?_
    intro t6 h6 tk6 F6 N6
    exact ret _ h6 tk6 ⟨_, rfl⟩ F6 N6
theorem add_sep {w : World} {A : Around} {E Q : Value → Shared → Prop} {s : Shared} {z : Bool} {ps : List Nat} {av sv : Value} (hav : PathV z ps av) (hsv : SepV z sv) (hl : ps.length ≤ 8) (h : ∀ mv tk, MidV z ps mv → Q mv { s with toks := tk }) : wpAny (model PR w) A (binaryOp .Add av sv) Q E s := by
  cases z with
  | true =>
    obtain ⟨t, rfl⟩ := hav
    obtain ⟨t', rfl⟩ := hsv
    exact SB.add (fun t1 k1 => h _ k1 ⟨t1, rfl⟩) (by rw [pthS_len, sizeLine_eq]; show _ + 1 ≤ _; omega)
  | false =>
    obtain ⟨t, rfl⟩ := hav
    obtain ⟨t', rfl⟩ := hsv
    exact KBy.add_bytes (by rw [pthB_len]; show _ + 1 ≤ _; omega) fun t1 k1 => h _ k1 ⟨t1, rfl⟩
theorem add_dig {w : World} {A : Around} {E Q : Value → Shared → Prop} {s : Shared} {z : Bool} {ps : List Nat} {j : Nat} {mv dv : Value} (hmv : MidV z ps mv) (hdv : DigV z j dv) (hl : ps.length ≤ 8) (hj : j < 6) (h : ∀ pv tk, PathV z (ps ++ [j]) pv → Q pv { s with toks := tk }) : wpAny (model PR w) A (binaryOp .Add mv dv) Q E s := by
  cases z with
  | true =>
    obtain ⟨t, rfl⟩ := hmv
    obtain ⟨t', rfl⟩ := hdv
    refine SB.add (fun t1 k1 => h _ k1 ⟨t1, ?_⟩) ?_
    · rw [pth_add ps (by omega)]
    · rw [dig_str j (by omega)]
      show (pthS ps ++ Str.ofString "/").length + 1 ≤ _
      rw [show (pthS ps ++ Str.ofString "/").length = (pthS ps).length + 1 from Array.size_append, pthS_len, sizeLine_eq]; omega
  | false =>
    obtain ⟨t, rfl⟩ := hmv
    obtain ⟨t', rfl⟩ := hdv
    refine KBy.add_bytes ?_ fun t1 k1 => h _ k1 ⟨t1, ?_⟩
    · rw [Array.size_append, pthB_len]; show _ + 1 + 1 ≤ _; omega
    · unfold pthB
      rw [pthN_snoc]
      simp
theorem ln_meth {M : Model} {A : Around} {E : Value → Shared → Prop} {s : Shared} {Q : Value × List Value → Shared → Prop} {h₀ : Heap} {L cA cB lst : Addr} {z : Bool} {done : List (List Nat × Int)} {core ext : Led} {name : Str} {id : String} {pl : Sem Bool} (slot : Slot "list" name id) (hty : typeOf (.builtin id) = pure (.type "method_descriptor"))
    (hs : LSt L cA cB z lst done core) (N : News h₀ L s.heap (ext ++ core)) (h : Q (.builtin id, [.ref lst]) s) : wpAny M A (getMethod (.ref lst) name pl) Q E s := by
  obtain ⟨vals, n0, tups, oA, ocA, oB, ocB, c1, c2, rfl, _⟩ := hs
  have z := (N _ (List.mem_append_right _ (.head _))).1
  exact getMethod_builtin ⟨_, z, rfl⟩ F.plainAttrs_list slot hty (fun a e => by cases e; exact ⟨_, z, rfl⟩) h
theorem apartN {L ta : Addr} {o : Obj} {core : Led} (h1 : L < ta) (h2 : ∀ p ∈ core, p.1 < ta) : Apart L [(ta, o)] core := fun p hp => by
  rw [List.mem_singleton.mp hp]
  exact ⟨h1, fun q hq => Nat.ne_of_lt (h2 q hq)⟩
theorem apartC {L ta : Addr} {o : Obj} {ext core : Led} (h : Apart L ext core) (h1 : L < ta) (h2 : ∀ p ∈ ext ++ core, p.1 < ta) : Apart L ((ta, o) :: ext) core := fun p hp => by
  rcases List.mem_cons.mp hp with rfl | hp
  · exact ⟨h1, fun q hq => Nat.ne_of_lt (h2 q (List.mem_append_right _ hq))⟩
  · exact h p hp
theorem Apart.sub {L : Addr} {ext ext' core : Led} (h : Apart L ext core) (hs : ∀ p ∈ ext', p ∈ ext) : Apart L ext' core := fun p hp => h p (hs p hp)
theorem dgs_sz {W : Nat} {q : Int} {dv : List Value} (h : IntsAre dv (dgs W q)) (hn : (intBits q + W - 1) / W ≤ 64) : dv.toArray.size ≤ sizeLine := by
  rw [List.size_toArray, h.length, dgs, digs_length, sizeLine_eq]; omega
theorem alt_len {α : Type} : ∀ l : List α, (alt l).1.length ≤ l.length ∧ (alt l).2.length ≤ l.length
  | [] => ⟨Nat.le_refl _, Nat.le_refl _⟩
  | _ :: r => ⟨Nat.succ_le_succ (alt_len r).2, Nat.le_succ_of_le (alt_len r).1⟩
theorem isi_str {w : World} {A : Around} {E Q : Value → Shared → Prop} {s : Shared} {z : Bool} {ps : List Nat} {av : Value} (hav : PathV z ps av) (h : ∀ tk, Q (.bool z) { s with toks := tk }) : wpAny (model PR w) A (call (.builtin "isinstance") [av, .type "str"]) Q E s := by
  cases z with
  | true =>
    obtain ⟨t, rfl⟩ := hav
    have := h s.toks
    k_steps
    exact this
  | false =>
    obtain ⟨t, rfl⟩ := hav
    refine call_isinstance (S := fun _ R s => R (.ok (.ret (.bool false))) { s with toks := s.toks + 1 }) (fun _ _ _ _ s hs => ?_) (h (s.toks + 1))
    obtain ⟨h, g, d, t, os⟩ := s
    exact isinstance_outer (isinstance_nested_false_bytes (by decide +kernel) F.isi_meta_str (by rw [isSubtype_type]; kernel_rfl) hs)
section
local macro_rules | `(tactic| walk_at "subscriptTail Name Slice ref ref") => `(tactic| walk_at "stop")
local macro_rules | `(tactic| walk_at "call type:str") => `(tactic| walk_at "stop")
local macro_rules | `(tactic| walk_at "call builtin:str.encode") => `(tactic| walk_at "stop")
local macro_rules | `(tactic| walk_at "getMethod str") => `(tactic| walk_at "stop")
local macro_rules | `(tactic| walk_at "eval IfExp") => `(tactic| walk_at "stop")
local macro_rules | `(tactic| walk_at "call builtin:isinstance") => `(tactic| walk_at "stop")
local macro_rules | `(tactic| walk_at "exec While BoolOp cons nil") => `(tactic| walk_at "stop")
local macro_rules | `(tactic| walk_at "binaryOp Mult int int") => `(tactic| walk_at "stop")
local macro_rules | `(tactic| walk_at "binaryOp FloorDiv int int") => `(tactic| walk_at "stop")
local macro_rules | `(tactic| walk_at "binaryOp Mod int int") => `(tactic| walk_at "stop")
local macro_rules | `(tactic| walk_at "newTuple") => `(tactic| walk_at "stop")
local macro_rules | `(tactic| walk_at "newList") => `(tactic| walk_at "stop")
local macro_rules | `(tactic| walk_at "subscriptTail") => `(tactic| walk_at "stop")
local macro_rules | `(tactic| walk_at "exec If") => `(tactic| walk_at "stop")
theorem ll_z {M : Int} {j f d : Nat} (h : ¬(0 < M ∧ (j : Int) < 30)) (h0 : 0 ≤ M) (hj : j + f = d + 1) (hd : d ≤ 5) : M = 0 := by
  refine Int.le_antisymm (Int.not_lt.mp fun q => h ⟨q, ?_⟩) h0
  exact Int.ofNat_lt.mpr (Nat.lt_of_le_of_lt (Nat.le_trans (Nat.le_add_right j f) (Nat.le_trans (Nat.le_of_eq hj) (Nat.succ_le_succ hd))) (by decide))
theorem ll_f {B M : Int} {f : Nat} (hM : 0 < M) (h : M < B ^ f) : ∃ k, f = k + 1 := by
  cases f with
  | zero => rw [Int.pow_zero] at h; exact absurd (Int.lt_of_le_of_lt hM h) (by decide)
  | succ k => exact ⟨k, rfl⟩
theorem ll_j {j f d : Nat} (h : j + (f + 1) = d + 1) (hd : d ≤ 5) : j < 6 := Nat.lt_of_lt_of_le (Nat.lt_of_lt_of_le (Nat.lt_add_of_pos_right (Nat.succ_pos f)) (Nat.le_of_eq h)) (Nat.succ_le_succ hd)
theorem kind7 (c : Int) : (c / 4096 % 7).toNat < 7 := (Int.toNat_lt (Int.emod_nonneg _ (by decide))).mpr (Int.emod_lt_of_pos _ (by decide))
theorem ll_ps {ps : List Nat} {j d : Nat} (h : ps.length + (d + 1) ≤ 8) : (ps ++ [j]).length + d ≤ 8 := by
  rw [List.length_append, List.length_singleton, Nat.add_assoc, Nat.add_comm 1]; exact h
theorem ll_u (d : Nat) : 750 + 5 * d + 3 ≤ 750 + 5 * (d + 1) := by omega
theorem ln_len {B : Int} {W d : Nat} {N : Int} {ps : List Nat} {done x : List (List Nat × Int)} (h : done ++ x = lns B W (d + 1) N ps) (hd : d ≤ 5) : done.length ≤ 2000 := by
  refine Nat.le_trans ?_ (Nat.le_trans (lns_len B W (d + 1) N ps) (bnd_le (d + 1) (Nat.succ_lt_succ (Nat.lt_succ_of_le hd))))
  rw [← h, List.length_append]; exact Nat.le_add_right _ _
theorem ln_len2 {B : Int} {W d : Nat} {N M : Int} {ps qs : List Nat} {r : List Nat × Int} {done x : List (List Nat × Int)} (h : done ++ x = lns B W (d + 1 + 1) N ps) (hd : d + 1 ≤ 5) : (done ++ [r]).length + (lns B W (d + 1) M qs).length ≤ 10000000 := by
  have h1 := ln_len h hd
  have h2 := Nat.le_trans (lns_len B W (d + 1) M qs) (bnd_le (d + 1) (Nat.lt_trans (Nat.succ_lt_succ (Nat.lt_succ_self d)) (Nat.succ_lt_succ (Nat.lt_succ_of_le hd))))
  rw [List.length_append, List.length_singleton]
  exact Nat.le_trans (Nat.add_le_add (Nat.succ_le_succ h1) h2) (by decide)
theorem ln_all {B : Int} {W f j : Nat} {sub : Int → List Nat → List (List Nat × Int)} {ps : List Nat} {done l : List (List Nat × Int)} (h : done ++ lnsG B W sub f 0 j ps = l) : done = l := by
  rw [← h]
  cases f with
  | zero => rw [lnsG, List.append_nil]
  | succ f => rw [lnsG, if_pos (Int.le_refl _), List.append_nil]
theorem ln_post {L cA cB lst : Addr} {z : Bool} {done : List (List Nat × Int)} {core : Led} (h : LSt L cA cB z lst done core) : LinesPost cA cB z done L (.ref lst) core := by
  obtain ⟨vals, n0, tups, oA', ocA', oB', ocB', c1, c2, rfl, u1, u2, u3, u4, u5, u6⟩ := h
  exact fun _ k => k lst vals n0 tups oA' ocA' oB' ocB' c1 c2 (Nat.le_of_lt u5) u1 u2 u3 u4 fun p hp => ⟨Nat.le_of_lt (u6 p hp).1, (u6 p hp).2⟩
theorem ct_law_lines (w : World) (B : Int) (W : Nat) (z : Bool) (hB : 0 < B) (hBb : intBits B ≤ 7998) (hW : 1 ≤ W) (hW2 : W ≤ 30000) (hq : DigOk B W 5) (hdm : ∀ M, 0 ≤ M → M < B ^ 5 → intBits M ≤ 60000 ∧ (intBits M + intBits B - 1) / intBits B ≤ 64) :
    ∀ (d : Nat), d ≤ 5 → ∀ (N : Int) (ps : List Nat) (t1 t2 t3 : Tok) (av : Value) (oA ocA oB ocB : Obj) (cA cB : Addr), TOKA oA cA ocA → TOKB oB cB ocB → cA ≠ cB → cA ≠ 37 → cB ≠ 30 → PathV z ps av → 0 ≤ N → N < B ^ d → ps.length + d ≤ 8 →
    Ct w 131 [.int N t1, .int B t2, .int (W : Nat) t3, av] (TT oA ocA oB ocB cA cB) (fun _ => True) (130 + 2 * d) (750 + 5 * d) (LinesPost cA cB z (lns B W (d + 1) N ps)) := by
  intro d
  induction d using Nat.strongRecOn with
  | _ d ih =>
  intro hd5 N ps t1 t2 t3 av oA ocA oB ocB cA cB hTA hTB hAB hA37 hB30 hav hN0 hN1 hps
  refine ct_def (fr := [("above", av), ("width", .int (W : Nat) t3), ("bound", .int B t2), ("number", .int N t1)]) (by with_unfolding_all rfl) (by with_unfolding_all rfl) (fun s => BindsTo.of_eq rfl) (locs rfl) rfl rfl rfl rfl (by decide) ?_
  intro p loose mean mg mb A dp un gd outer base g L' s h₁ hdp hun hpre hg F' N' hlt B' X' C1 C2 T' Q0 hQ0 A1 e1
  have hTb : Tabs L' cA cB := ⟨hA37, hB30, hlt _ (.head _), hlt _ (.tail _ (.tail _ (.head _)))⟩
  have hcA : cA < L' := hlt _ (.tail _ (.head _))
  have hcB : cB < L' := hlt _ (.tail _ (.tail _ (.tail _ (.head _))))
  clear hg hpre hlt
  k_steps
  unfold Stop
  refine newListM (by k_asm) (by k_asm) ?_
  intro lst h2 F2 N2 l1 l2
  have hL0 : LSt L' cA cB z lst [] ((lst, listOf (List.toArray []) 0) :: TT oA ocA oB ocB cA cB) :=
    ⟨[], 0, [], oA, ocA, oB, ocB, cA, cB, rfl, .nil, ⟨hTA, hTB, .inl rfl, .inl rfl, hAB⟩, Nat.ne_of_gt (Nat.lt_trans hcA l2), Nat.ne_of_gt (Nat.lt_trans hcB l2), l2, fun _ h => nomatch h⟩
  generalize ((lst, listOf (List.toArray []) 0) :: TT oA ocA oB ocB cA cB : Led) = core at N2 hL0
  clear l1 F' N'
  k_steps
  unfold Stop
  rename Fr _ _ _ _ => F3
  rename News _ _ _ _ => N3
  refine cutM (l := [("number", .int N t1), ("place", .int (0 : Nat) _), ("lines", .ref lst), ("bound", .int B t2), ("width", .int (W : Nat) t3), ("above", av)]) F3 rfl fun m3 F4 => ?_
  clear F3
  refine joinFr F4 (fun FF R1 => ∀ t h tk, FF h → News g L' h core → R1 (.int (zi z) t) { s with heap := h, toks := tk }) ?_ ?_
  · intro R1 hR1
    refine wpAny_IfExp ?_
    k_steps
    unfold Stop
    refine isi_str hav fun tk5 => wpAny_truthy_bool ?_
    cases z with
    | true =>
      rw [if_pos rfl]
      k_steps
      exact hR1 _ _ _ F4 N3
    | false =>
      rw [if_neg Bool.false_ne_true]
      k_steps
      exact hR1 _ _ _ F4 N3
  intro tz h5 tk5 F5 N5
  replace F5 : Fr _ _ _ _ := F5
  clear F4 N3
  k_steps
  unfold Stop
  rename Fr _ _ _ _ => F3
  rename News _ _ _ _ => N3
  have hmono : B ^ d ≤ B ^ (d + 1) := pow_le_of hB (Nat.le_succ d)
  refine whileM (LnInv B W d N ps z av L' cA cB lst) F3 N3 (fun _ k => k N 0 [] _ _ _ _ _ (allLk rfl) hL0 rfl hN0 (Int.le_refl _) (Int.lt_of_lt_of_le hN1 hmono) (Nat.zero_add _)) ?_
  clear F3 N3 hL0 hmono
  intro f m₁ news₁ h₁ tk₁ F1 N1 hJ
  refine hJ _ ?_
  clear hJ
  intro M j done v1 v2 v3 v5 v6 hm hL hrows hM0 hMN hMf hjf Q1 hQ1
  refine (show TsI _ [("number", .i M), ("place", .i (j : Nat))] _ (0 < M ∧ (j : Int) < 30) by walk_at "ts") w _ _ _ _ m₁ _ _ rfl F1.ns ⟨⟨v1, hm.1⟩, ⟨v2, hm.2.1⟩, trivial⟩ fun b tk hb1 hb2 => ?_
  replace F1 := frOv F1 hm
  clear hm
  cases b with
  | false =>
    rw [if_neg Bool.false_ne_true]
    obtain rfl := ll_z (hb2 rfl) hM0 hjf hd5
    k_steps
    rename Fr _ _ _ _ => F9
    obtain rfl := ln_all hrows
    exact leave hQ0 F9 N1 (ln_post hL)
  | true =>
    rw [if_pos rfl]
    obtain ⟨hMp, _⟩ := hb1 rfl
    clear hb1 hb2
    obtain ⟨f, rfl⟩ := ll_f hMp hMf
    have hB5 : B ^ d ≤ B ^ 5 := pow_le_of hB hd5
    have hMB := Int.lt_of_le_of_lt hMN hN1
    obtain ⟨k1, k2⟩ := hdm (M - 1) (Int.le_sub_one_of_lt hMp) (Int.lt_of_lt_of_le (Int.lt_of_le_of_lt (Int.sub_le_self M (by decide)) hMB) hB5)
    obtain ⟨q0, q1, q2, q3, q4⟩ := q_facts hB hMp
    have kz := zi_bits z
    k_steps
    unfold Stop
    refine mul_to kz k1 (by decide) rfl ?_
    k_steps
    unfold Stop
    refine mul_to kz hBb (by decide) rfl ?_
    k_steps
    unfold Stop
    refine ln_dm (x := qOf B M) (y := zi z * cOf B M) hTb hL (fun oA ocA oB ocB c1 c2 x1 x2 x3 x4 x5 => ct_dmz w z (M - 1) B _ _ _ _ oA ocA oB ocB c1 c2 x1 x2 x3 x4 x5 (Int.le_sub_one_of_lt hMp) k1 hB hBb k2 rfl rfl) B' F1 X' C1 C2 T' N1 rfl (rmD hdp (Nat.le_trans (by decide) (Nat.le_add_right 130 _))) (rmU hun (Nat.le_trans (by decide) (Nat.le_add_right 750 _))) ?_
    intro r tr tr' core2 h2 tk2 hL2 F2 N2 hLr hap
    clear hL F1 N1
    k_steps
    unfold Stop
    have kc : intBits (cOf B M) ≤ 7998 := bits_of_lt q2 (Int.lt_trans q3 (lt_of_bits hBb)) (Nat.le_refl _)
    refine mul_to kz (intBits_mul_le kz kc) (by decide) (zi_sq z _) ?_
    k_steps
    unfold Stop
    rename Fr _ _ _ _ => F3
    rename News _ _ _ _ => N3
    replace N3 := news_sub N3 (l' := core2) fun _ hp => .tail _ hp
    refine newTupleG (TupI kindT) F3 N3 ⟨rfl, _, _, rfl, .cons _ _ (.cons _ _ (.cons _ _ (.cons _ _ (.cons _ _ (.cons _ _ (.cons _ _ .nil))))))⟩ ?_ (Nat.le_of_ble_eq_true rfl)
    intro kt oK h3 hK F4 N4 l4 l5
    clear F3 N3 l4 l5
    k_steps
    unfold Stop
    refine floordiv_to (v := cOf B M / 4096) (by decide) (PyProof.noPylong_small (by decide)) (fdiv_pos (by decide)) ?_
    k_steps
    unfold Stop
    refine mod_to (v := (((cOf B M / 4096 % 7).toNat : Nat) : Int)) (by decide) (by rw [fmod_pos (by decide), Int.toNat_of_nonneg (Int.emod_nonneg _ (by decide))]) ?_
    k_steps
    unfold Stop
    refine tupI_at N4 (.head _) hK (kind7 _) (by decide) (fun t5 => ?_) (by with_unfolding_all rfl)
    k_steps
    unfold Stop
    refine mul_to (m := 64) (kind_bits _) (by decide : intBits (4096 : Int) ≤ 13) (by decide) rfl ?_
    k_steps
    refine useI (ct_S_IMODE w (cOf B M) _) B' F4 X' C1 C2 T' N4 rfl (rmD hdp (Nat.le_trans (by decide) (Nat.le_add_right 130 _))) (rmU hun (Nat.le_trans (by decide) (Nat.le_add_right 750 _))) trivial ?_
    intro t6 h6 tk6 F6 N6
    rw [imode q2]
    replace N6 := news_sub N6 (l' := core2) fun _ hp => .tail _ hp
    clear F4 N4
    k_steps
    unfold Stop
    rename Fr _ _ _ _ => F3
    rename News _ _ _ _ => N3
    have ejn : j < 6 := ll_j hjf hd5
    have hp8 : ps.length ≤ 8 := Nat.le_trans (Nat.le_add_right _ _) hps
    refine ln_sep hav B' F3 X' C1 C2 T' N3 rfl (rmD hdp (Nat.le_trans (by decide) (Nat.le_add_right 130 _))) (rmU hun (Nat.le_trans (by decide) (Nat.le_add_right 750 _))) ?_
    intro sv h7 tk7 hsv F4 N4
    clear F3 N3
    k_steps
    refine add_sep hav hsv hp8 fun mv tk8 hmv => ?_
    k_steps
    unfold Stop
    refine cutM (l := [("mode", .int (modeOf (cOf B M)) _), ("code", .int (cOf B M) _), ("quotient", .int (qOf B M) _), ("place", .int (j : Nat) _), ("turn", .int (zi z) _), ("lines", .ref lst), ("bound", .int B _), ("width", .int (W : Nat) _), ("above", av)]) F4 rfl fun m5 F5 => ?_
    clear F4
    refine joinFr F5 (fun FF R1 => ∀ v h tk, DigV z j v → FF h → News g L' h core2 → R1 v { s with heap := h, toks := tk }) ?_ ?_
    · intro R1 hR1
      refine wpAny_IfExp ((show TsI _ [("turn", .i (zi z))] _ (zi z = 1) by walk_at "ts") w _ _ _ _ _ _ _ rfl F5.ns ⟨⟨_, rfl⟩, trivial⟩ fun b tk h1 h2 => ?_)
      have hlog : (j : Int).natAbs.log2 < 1920 := Nat.lt_of_le_of_lt (Nat.log2_le_self _) (Nat.lt_trans ejn (by decide))
      cases b with
      | true =>
        obtain rfl := zi_ts.mp (h1 rfl)
        rw [if_pos rfl]
        k_steps
        unfold Stop
        refine PySem.P.str_of_int hlog ?_
        exact hR1 _ _ _ ⟨_, rfl⟩ F5 N4
      | false =>
        obtain rfl : z = false := by
          cases z with
          | true => exact absurd rfl (h2 rfl)
          | false => rfl
        rw [if_neg Bool.false_ne_true]
        k_steps
        unfold Stop
        refine PySem.P.str_of_int hlog ?_
        rw [dig_str j (Nat.lt_trans ejn (by decide))]
        k_steps
        unfold Stop
        refine getMethod_builtin (typeIs_str _ _ _) F.plainAttrs_str F.slot_str_encode F.type_str_encode (fun a e => nomatch e) ?_
        k_steps
        unfold Stop
        refine enc_dig ejn ?_
        exact hR1 _ _ _ ⟨_, rfl⟩ F5 N4
    intro dv h8 tk8 hdv F8 N8
    replace F8 : Fr _ _ _ _ := F8
    clear F5 N4
    k_steps
    refine add_dig hmv hdv hp8 ejn fun pv tk9 hpv => ?_
    clear hmv hdv hsv
    k_steps
    rename Fr _ _ _ _ => F9
    rename News _ _ _ _ => N9
    refine ln_meth (ext := []) F.slot_list_append F.type_list_append hL2 N9 ?_
    k_steps
    unfold Stop
    refine useV (ct_filemode w (modeOf (cOf B M)) _) B' F9 X' C1 C2 T' N9 rfl (rmD hdp (Nat.le_trans (by decide) (Nat.le_add_right 130 _))) (rmU hun (Nat.le_trans (by decide) (Nat.le_add_right 750 _))) trivial ?_
    intro t10 h10 tk10 F10 N10
    clear F9 N9
    k_steps
    unfold Stop
    refine floordiv_to (v := cOf B M / 28672) (by decide) (PyProof.noPylong_small (by decide)) (fdiv_pos (by decide)) ?_
    k_steps
    unfold Stop
    refine newTupleM F10 N10 ?_ (Nat.le_of_ble_eq_true rfl)
    intro ta h11 F11 N11 l5 l6
    have hln := Nat.le_trans (ln_len hrows hd5) (show 2000 ≤ 10000000 by decide)
    k_steps
    refine ln_app (r := (ps ++ [j], cOf B M)) hTb hL2 (apartN l6 l5) hpv F11 N11 hln ?_
    intro core3 h12 hL3 F12 N12
    clear F11 N11 l5 l6 hL2 F10 N10
    k_steps
    unfold Stop
    rename Fr _ _ _ _ => F13
    rename News _ _ _ _ => N13
    refine joinC (fun R1 => ∀ b1 b2 b3 b5 b6 news h tk m, Fr g L' h (ov [("number", .int (nx B W M) b1), ("place", .int (j : Nat) b2), ("turn", .int (zi z) b3), ("lines", .ref lst), ("bound", .int B b5), ("width", .int (W : Nat) b6), ("above", av)] m) → News g L' h news →
      LSt L' cA cB z lst (done ++ (ps ++ [j], cOf B M) :: (if isD (cOf B M) then lns B W d (sbn B W M) (ps ++ [j]) else [])) news → R1 .next { s with heap := h, toks := tk }) ?_ ?_
    · intro R1 hR1
      refine wpAny_If ?_
      k_steps
      unfold Stop
      refine useV (ct_S_ISDIR w _ _) B' F13 X' C1 C2 T' N13 rfl (rmD hdp (Nat.le_trans (by decide) (Nat.le_add_right 130 _))) (rmU hun (Nat.le_trans (by decide) (Nat.le_add_right 750 _))) trivial ?_
      intro _ h10 tk10 F14 N14
      rw [isdir_mode]
      clear F13 N13
      by_cases hD : isD (cOf B M)
      · rw [decide_eq_true hD]
        rw [if_pos hD] at hR1
        k_steps
        unfold Stop
        obtain ⟨kq1, kq2, _⟩ := hq (qOf B M) q0 (dig_lt hB hMp (Int.lt_of_lt_of_le hMB hB5))
        refine ln_i2d hTb hL3 hW hW2 q0 kq1 kq2 B' F14 X' C1 C2 T' N14 rfl (rmD hdp (Nat.le_trans (by decide) (Nat.le_add_right 130 _))) (rmU hun (Nat.le_trans (by decide) (Nat.le_add_right 750 _))) ?_
        intro dl dv n1 core4 h15 tk15 hL4 F15 N15 hdI hAp
        clear F14 N14 hL3
        k_steps
        rename Fr _ _ _ _ => F16
        rename News _ _ _ _ => N16
        refine ln_meth (ext := [(dl, _)]) F.slot_list_extend F.type_list_extend hL4 N16 ?_
        have hlen : (dgs W (qOf B M)).length ≤ 64 := by unfold dgs; rw [digs_length]; exact kq2
        obtain ⟨g1, g2⟩ := alt_len (dgs W (qOf B M))
        obtain ⟨⟨s0, s1⟩, _⟩ := sub_facts (W := W) hB hW hMp
        obtain ⟨d', rfl⟩ := ll_f (Int.lt_of_lt_of_le hMp hMN) hN1
        k_steps
        unfold Stop
        refine' kmk_slice3_lit ?slF ?slN ?slL ?slP ?slQ ?slK ?slO ?slE ?_ ?slS ?slT ?slZ
        case slF => exact F16
        case slN => exact N16
        case slL => exact PySem.IsL.isList (n := n1) (N16 _ (.head _)).1
        case slP => exact .int _ _
        case slQ => exact .none
        case slK => exact .int _ _
        case slO => decide
        case slE => exact slice_alt0 dv
        case slS => with_unfolding_all rfl
        case slT => intro _; with_unfolding_all rfl
        case slZ => exact dgs_sz hdI kq2
        intro sl h17 F17 N17 l7
        replace hAp := apartC (o := listOf (alt dv).1.toArray 0) hAp (Nat.lt_trans (hAp _ (.head _)).1 (l7 _ (.head _))) l7
        clear F16 N16 l7
        k_steps
        unfold Stop
        refine ln_d2i hTb hL4 hAp (.head _) (ints_alt hdI).1 hW2 (fun d hd => dgs_ok d (alt_mem (.inl hd))) (Nat.le_trans g1 hlen) B' F17 X' C1 C2 T' N17 rfl (rmD hdp (Nat.le_trans (by decide) (Nat.le_add_right 130 _))) (rmU hun (Nat.le_trans (by decide) (Nat.le_add_right 750 _))) ?_
        intro t18 core5 h18 tk18 hL5 F18 N18 hAp5
        clear F17 N17 hAp hL4
        k_steps
        unfold Stop
        refine ln_rec (ext := [_, _]) hTb hL5 (fun oA ocA oB ocB c1 c2 x1 x2 x3 x4 x5 => ih d' (Nat.lt_succ_self _) (Nat.le_of_succ_le hd5) (sbn B W M) (ps ++ [j]) _ _ _ pv oA ocA oB ocB c1 c2 x1 x2 x3 x4 x5 hpv s0 (Int.lt_of_le_of_lt s1 (q_pow hB (Int.lt_of_le_of_lt hMN hN1))) (ll_ps hps)) B' F18 X' C1 C2 T' hAp5 N18 rfl (rmD hdp (Nat.le_of_lt (Nat.lt_succ_self _))) (rmU hun (ll_u _)) ?_
        intro l2 v2 n2 core6 h19 tk19 hL6 F19 N19 hAp6
        clear F18 N18 hAp5 hL5
        k_steps
        refine ln_ext (ext := [_, _, _]) hTb hL6 hAp6 (.head _) F19 N19 ?_ ?_
        · exact ln_len2 hrows hd5
        intro core7 h20 hL7 F20 N20 hAp7
        replace N20 := news_sub N20 (l' := (dl, listOf dv.toArray n1) :: core7) fun p hp => by
          rcases List.mem_cons.mp hp with rfl | hp
          · exact List.mem_append_left core7 (.tail _ (.tail _ (.head _)))
          · exact List.mem_append_right _ hp
        replace hAp7 := hAp7.sub (ext' := [(dl, listOf dv.toArray n1)]) fun p hp => by rw [List.mem_singleton.mp hp]; exact .tail _ (.tail _ (.head _))
        clear F19 N19 hAp6 hL6
        k_steps
        unfold Stop
        refine' kmk_slice3_lit ?tlF ?tlN ?tlL ?tlP ?tlQ ?tlK ?tlO ?tlE ?_ ?tlS ?tlT ?tlZ
        case tlF => exact F20
        case tlN => exact N20
        case tlL => exact PySem.IsL.isList (n := n1) (N20 _ (.head _)).1
        case tlP => exact .int _ _
        case tlQ => exact .none
        case tlK => exact .int _ _
        case tlO => decide
        case tlE => exact slice_alt1 dv
        case tlS => with_unfolding_all rfl
        case tlT => intro _; with_unfolding_all rfl
        case tlZ => exact dgs_sz hdI kq2
        intro sl2 h21 F21 N21 l7
        replace hAp7 := apartC (o := listOf (alt dv).2.toArray 0) hAp7 (Nat.lt_trans (hAp7 _ (.head _)).1 (l7 _ (.head _))) l7
        clear F20 N20 l7
        k_steps
        unfold Stop
        refine ln_d2i (ext := [_, _]) hTb hL7 hAp7 (.head _) (ints_alt hdI).2 hW2 (fun d hd => dgs_ok d (alt_mem (.inr hd))) (Nat.le_trans g2 hlen) B' F21 X' C1 C2 T' N21 rfl (rmD hdp (Nat.le_trans (by decide) (Nat.le_add_right 130 _))) (rmU hun (Nat.le_trans (by decide) (Nat.le_add_right 750 _))) ?_
        intro t22 core8 h22 tk22 hL8 F22 N22 hAp8
        replace N22 := news_sub N22 (l' := core8) fun p hp => List.mem_append_right _ hp
        clear F21 N21 hAp7 hL7 hAp8
        rw [show dval W (alt (dgs W (qOf B M))).2 = nx B W M from (if_pos hD).symm]
        k_steps
        rename Fr _ _ _ _ => F23
        rename News _ _ _ _ => N23
        rw [List.append_assoc, List.singleton_append] at hL8
        exact hR1 _ _ _ _ _ _ _ _ _ (frM F23 rfl) N23 hL8
      · rw [decide_eq_false hD]
        rw [if_neg hD] at hR1
        k_steps
        rw [show qOf B M = nx B W M from (if_neg hD).symm] at F14
        exact hR1 _ _ _ _ _ _ _ _ _ (frM F14 rfl) N14 hL3
    · intro b1 b2 b3 b5 b6 news8 h8 tk8 m8 F8 N8 hL4
      clear F13 N13 hL3
      k_steps
      rename Fr _ _ _ _ => F9
      rename News _ _ _ _ => N9
      obtain ⟨_, n1, n2⟩ := sub_facts (W := W) hB hW hMp
      refine hQ1 _ _ (WStep.intro (n' := f) F9 N9 (Nat.lt_succ_self _) fun _ k => k (nx B W M) (j + 1) _ _ _ _ _ _ (allLk rfl) hL4 ?_ n1 (Int.le_trans n2 (Int.le_of_lt (Int.lt_of_lt_of_le q1 hMN))) (Int.lt_of_le_of_lt n2 (q_pow hB hMf)) (fm_up hjf))
      rw [← hrows, lnsG, if_neg (Int.not_le.mpr hMp), List.append_assoc, List.cons_append]
end

section
variable {B : Int} {W : Nat}
noncomputable abbrev Rows := List (List Nat × Int)
/-- all below a place -/
noncomputable def Under (ps : List Nat) (rows : Rows) : Prop := ∀ r ∈ rows, ∃ i q, r.1 = ps ++ i :: q
theorem app_ne {ps q q' : List Nat} {i j : Nat} (h : i ≠ j) : ps ++ i :: q ≠ ps ++ j :: q' := fun e => h (List.cons.inj (List.append_cancel_left e)).1
theorem lookup_no {rows : Rows} {p : List Nat} (h : ∀ r ∈ rows, p ≠ r.1) : rows.lookup p = none := by
  induction rows with
  | nil => rfl
  | cons r rs ih =>
    obtain ⟨k, v⟩ := r
    rw [List.lookup_cons, beq_eq_false_iff_ne.mpr (h _ (.head _))]
    exact ih fun x hx => h x (.tail _ hx)
theorem lookup_app {p : List Nat} : ∀ {a b : Rows}, (a ++ b).lookup p = (a.lookup p).or (b.lookup p)
  | [], _ => rfl
  | (k, v) :: r, b => by
    rw [List.cons_append, List.lookup_cons, List.lookup_cons]
    cases p == k
    · exact lookup_app
    · rfl
section
variable {sub : Int → List Nat → Rows} (hs : ∀ N ps, Under ps (sub N ps))
include hs
theorem subrows_under {N : Int} {ps : List Nat} {j : Nat} : ∀ r ∈ (if isD (cOf B N) then sub (sbn B W N) (ps ++ [j]) else []), ∃ i q, r.1 = ps ++ j :: i :: q := by
  intro r hr
  split at hr
  · obtain ⟨i, q, e⟩ := hs _ _ r hr
    exact ⟨i, q, by rw [e, List.append_assoc]; rfl⟩
  · exact nomatch hr
theorem lnsG_under : ∀ k N j ps, ∀ r ∈ lnsG B W sub k N j ps, ∃ i q, r.1 = ps ++ (j + i) :: q
  | 0, _, _, _, r, hr => nomatch hr
  | k + 1, N, j, ps, r, hr => by
    rw [lnsG] at hr
    split at hr
    · exact nomatch hr
    · rcases List.mem_cons.mp hr with rfl | hr
      · exact ⟨0, [], rfl⟩
      · rcases List.mem_append.mp hr with hr | hr
        · obtain ⟨i, q, e⟩ := subrows_under hs r hr
          exact ⟨0, i :: q, e⟩
        · obtain ⟨i, q, e⟩ := lnsG_under k _ _ _ r hr
          exact ⟨i + 1, q, by rw [e, show j + 1 + i = j + (i + 1) by omega]⟩
/-- what the rows of a level tell -/
theorem lnsG_get : ∀ k N j ps, (∀ i M, (lev B W k N)[i]? = some M → (lnsG B W sub k N j ps).lookup (ps ++ [j + i]) = some (cOf B M) ∧
      (isD (cOf B M) → ∀ q, q ≠ [] → (lnsG B W sub k N j ps).lookup (ps ++ (j + i) :: q) = (sub (sbn B W M) (ps ++ [j + i])).lookup (ps ++ (j + i) :: q))) ∧
    (lnsG B W sub k N j ps).lookup (ps ++ [j + (lev B W k N).length]) = none
  | 0, N, j, ps => ⟨fun i M h => (nomatch h), rfl⟩
  | k + 1, N, j, ps => by
    obtain ⟨ih1, ih2⟩ := lnsG_get k (nx B W N) (j + 1) ps
    rw [lnsG, lev]
    by_cases hN : N ≤ 0
    · rw [if_pos hN, if_pos hN]
      exact ⟨fun i M h => (nomatch h), rfl⟩
    rw [if_neg hN, if_neg hN]
    have skip : ∀ i q, (((ps ++ [j], cOf B N) :: ((if isD (cOf B N) then sub (sbn B W N) (ps ++ [j]) else []) ++ lnsG B W sub k (nx B W N) (j + 1) ps) : Rows)).lookup (ps ++ (j + (i + 1)) :: q) = (lnsG B W sub k (nx B W N) (j + 1) ps).lookup (ps ++ (j + 1 + i) :: q) := by
      intro i q
      rw [List.lookup_cons, beq_eq_false_iff_ne.mpr (app_ne (by omega))]
      show List.lookup _ (_ ++ _) = _
      rw [lookup_app, lookup_no fun r hr => ?_, Option.none_or, show j + (i + 1) = j + 1 + i by omega]
      obtain ⟨i', q', e⟩ := subrows_under hs r hr
      rw [e]
      exact app_ne (by omega)
    refine ⟨fun i M h => ?_, ?_⟩
    · cases i with
      | zero =>
        cases h
        refine ⟨?_, fun hd q hq => ?_⟩
        · rw [List.lookup_cons, Nat.add_zero, beq_self_eq_true]
        · rw [List.lookup_cons, Nat.add_zero, beq_eq_false_iff_ne.mpr (fun e => hq (List.cons.inj (List.append_cancel_left e)).2)]
          show List.lookup _ (_ ++ _) = _
          rw [lookup_app, lookup_no (rows := lnsG B W sub k (nx B W N) (j + 1) ps) fun r hr => ?_, Option.or_none, if_pos hd]
          obtain ⟨i', q', e⟩ := lnsG_under hs _ _ _ _ r hr
          rw [e]
          exact app_ne (by omega)
      | succ i =>
        rw [List.getElem?_cons_succ] at h
        obtain ⟨a, b⟩ := ih1 i M h
        refine ⟨(skip i []).trans a, fun hd q hq => (skip i q).trans ?_⟩
        rw [b hd q hq, show j + (i + 1) = j + 1 + i by omega]
    · rw [List.length_cons]
      exact (skip _ []).trans ih2
theorem lnsG_nodup (hn : ∀ N ps, ((sub N ps).map (·.1)).Nodup) : ∀ k N j ps, ((lnsG B W sub k N j ps).map (·.1)).Nodup
  | 0, _, _, _ => List.nodup_nil
  | k + 1, N, j, ps => by
    rw [lnsG]
    split
    · exact List.nodup_nil
    · rw [List.map_cons, List.nodup_cons, List.map_append]
      refine ⟨fun h => ?_, List.nodup_append.mpr ⟨?_, lnsG_nodup hn k _ _ _, fun a ha b hb => ?_⟩⟩
      · rcases List.mem_append.mp h with h | h
        · obtain ⟨r, hr, e⟩ := List.mem_map.mp h
          obtain ⟨i, q, e'⟩ := subrows_under hs r hr
          rw [e'] at e
          exact nomatch (List.cons.inj (List.append_cancel_left e)).2
        · obtain ⟨r, hr, e⟩ := List.mem_map.mp h
          obtain ⟨i, q, e'⟩ := lnsG_under hs _ _ _ _ r hr
          rw [e'] at e
          exact app_ne (show j + 1 + i ≠ j by omega) e
      · split
        · exact hn _ _
        · exact List.nodup_nil
      · obtain ⟨r, hr, rfl⟩ := List.mem_map.mp ha
        obtain ⟨r', hr', rfl⟩ := List.mem_map.mp hb
        obtain ⟨i, q, e⟩ := subrows_under hs r hr
        obtain ⟨i', q', e'⟩ := lnsG_under hs _ _ _ _ r' hr'
        rw [e, e']
        exact app_ne (by omega)
end
theorem lns_under : ∀ d N ps, Under ps (lns B W d N ps)
  | 0, _, _ => fun _ h => nomatch h
  | d + 1, N, ps => fun r hr => by
    obtain ⟨i, q, e⟩ := lnsG_under (lns_under d) _ _ _ _ r hr
    exact ⟨0 + i, q, e⟩
theorem lns_nodup : ∀ d N ps, ((lns B W d N ps).map (·.1)).Nodup
  | 0, _, _ => List.nodup_nil
  | d + 1, N, ps => lnsG_nodup (lns_under d) (lns_nodup d) _ _ _ _
theorem lnsG_code (hB : 0 < B) {sub : Int → List Nat → Rows} (hs : ∀ N ps, ∀ r ∈ sub N ps, 0 ≤ r.2 ∧ r.2 < B) : ∀ k N j ps, ∀ r ∈ lnsG B W sub k N j ps, 0 ≤ r.2 ∧ r.2 < B
  | 0, _, _, _, _, h => nomatch h
  | k + 1, N, j, ps, r, hr => by
    rw [lnsG] at hr
    split at hr
    · exact nomatch hr
    · rcases List.mem_cons.mp hr with rfl | hr
      · exact ⟨Int.emod_nonneg _ (Int.ne_of_gt hB), Int.emod_lt_of_pos _ hB⟩
      · rcases List.mem_append.mp hr with hr | hr
        · split at hr
          · exact hs _ _ r hr
          · exact nomatch hr
        · exact lnsG_code hB hs k _ _ _ r hr
theorem lns_code (hB : 0 < B) : ∀ d N ps, ∀ r ∈ lns B W d N ps, 0 ≤ r.2 ∧ r.2 < B
  | 0, _, _, _, h => nomatch h
  | d + 1, N, ps, r, hr => lnsG_code hB (lns_code hB d) _ _ _ _ r hr
theorem lev_fuel (hB : 0 < B) (hW : 1 ≤ W) : ∀ k k' N, k ≤ k' → 0 ≤ N → N < B ^ k → lev B W k' N = lev B W k N
  | 0, k', N, _, h0, h1 => by
    rw [Int.pow_zero] at h1
    cases k' with
    | zero => rfl
    | succ k' => exact if_pos (by omega)
  | k + 1, k', N, hk, h0, h1 => by
    obtain ⟨k', rfl⟩ : ∃ x, k' = x + 1 := ⟨k' - 1, by omega⟩
    rw [lev, lev]
    by_cases hN : N ≤ 0
    · rw [if_pos hN, if_pos hN]
    · rw [if_neg hN, if_neg hN]
      obtain ⟨_, n1, n2⟩ := sub_facts (W := W) hB hW (Int.not_le.mp hN)
      rw [lev_fuel hB hW k k' _ (by omega) n1 (Int.lt_of_le_of_lt n2 (q_pow hB h1))]
/-- the rows are a book of the number -/
theorem bk_of (hB : 0 < B) (hW : 1 ≤ W) {get : List Nat → Option Int} : ∀ d N ps, d ≤ 5 → 0 ≤ N → N < B ^ d → (∀ q, q ≠ [] → get (ps ++ q) = (lns B W (d + 1) N ps).lookup (ps ++ q)) → Bk B W get 5 (d + 1) N ps := by
  intro d
  induction d with
  | zero =>
    intro N ps hd h0 h1 hg
    obtain rfl : N = 0 := by rw [Int.pow_zero] at h1; omega
    refine ⟨?_, fun j M h => ?_⟩
    · rw [hg _ (by simp)]; rfl
    · exact nomatch h
  | succ d ih =>
    intro N ps hd h0 h1 hg
    have e1 : lev B W 5 N = lev B W (d + 1) N := lev_fuel hB hW _ _ _ (by omega) h0 h1
    have e2 : lev B W (d + 1 + 1) N = lev B W (d + 1) N := lev_fuel hB hW _ _ _ (by omega) h0 h1
    obtain ⟨g1, g2⟩ := lnsG_get (B := B) (W := W) (lns_under (d + 1)) (d + 1 + 1) N 0 ps
    rw [e2] at g1 g2
    refine ⟨?_, fun j M h => ?_⟩
    · rw [e1, hg _ (by simp)]
      rw [Nat.zero_add] at g2
      exact g2
    · rw [e1] at h
      obtain ⟨a, b⟩ := g1 j M h
      rw [Nat.zero_add] at a b
      obtain ⟨M0, MN, _⟩ := (lev_facts hB hW (d + 1) N h0 h1).2 j M h
      obtain ⟨⟨s0, s1⟩, _⟩ := sub_facts (W := W) hB hW M0
      refine ⟨(hg _ (by simp)).trans a, fun hD => ih _ _ (by omega) s0 (Int.lt_of_le_of_lt s1 (q_pow hB (Int.lt_of_le_of_lt MN h1))) fun q hq => ?_⟩
      have := b hD q hq
      rw [List.append_assoc, List.singleton_append, hg _ (by simp)]
      exact this
end

/-- how many sizes -/
noncomputable def szF (second : Int) : Int := ((5 + second / 5 % 1000) * 2 ^ (second % 5 * 1100).toNat + 6) / 11
theorem sz_facts (second : Int) : 1 ≤ szF second ∧ szF second < 2 ^ 4407 := by
  have a1 := Int.emod_nonneg (second / 5) (show (1000 : Int) ≠ 0 by decide)
  have a2 := Int.emod_lt_of_pos (second / 5) (show (0 : Int) < 1000 by decide)
  have e1 := Int.emod_nonneg second (show (5 : Int) ≠ 0 by decide)
  have e2 := Int.emod_lt_of_pos second (show (0 : Int) < 5 by decide)
  have hp := pow2_pos (second % 5 * 1100).toNat
  have hle : (2 : Int) ^ (second % 5 * 1100).toNat ≤ 2 ^ 4400 := by
    have : (second % 5 * 1100).toNat ≤ 4400 := by omega
    exact_mod_cast Nat.pow_le_pow_right (show 0 < 2 by decide) this
  unfold szF
  generalize (2 : Int) ^ (second % 5 * 1100).toNat = P at *
  generalize second / 5 % 1000 = a at *
  have h1 : 5 * P ≤ (5 + a) * P := Int.mul_le_mul_of_nonneg_right (by omega) (by omega)
  have h2 : (5 + a) * P ≤ 1004 * P := Int.mul_le_mul_of_nonneg_right (by omega) (by omega)
  have h3 : (2 : Int) ^ 4407 = 128 * 2 ^ 4400 := by rw [show 4407 = 7 + 4400 from rfl, Int.pow_add]; rfl
  rw [h3]
  generalize (2 : Int) ^ 4400 = R at *
  omega
theorem bits_of_sz (second : Int) : intBits (szF second) ≤ 4407 := bits_of_lt (by have := (sz_facts second).1; omega) (sz_facts second).2 (Nat.le_refl _)
noncomputable def wdF (first second : Int) : Nat := (9 + (first % 60).toNat) * (1 + intBits (szF second) / 15)
noncomputable def bdF (second : Int) : Int := 28672 * szF second
theorem bd_pos (second : Int) : 0 < bdF second := by have := (sz_facts second).1; unfold bdF; omega
theorem bd_bits (second : Int) : intBits (bdF second) ≤ 15 + intBits (szF second) := intBits_mul_le (by decide) (Nat.le_refl _)
theorem pow_bits {x : Int} {m : Nat} (h : intBits x ≤ m) : ∀ n, intBits (x ^ n) ≤ 1 + m * n
  | 0 => by rw [Int.pow_zero]; exact Nat.le_trans (show intBits (1 : Int) ≤ 1 by decide) (Nat.le_add_right _ _)
  | n + 1 => by
    rw [Int.pow_succ, Nat.mul_succ]
    have := intBits_mul_le (pow_bits h n) h
    omega
theorem bits_le_of_lt {x y : Int} {m : Nat} (h0 : 0 ≤ x) (h : x < y) (hy : intBits y ≤ m) : intBits x ≤ m := bits_of_lt h0 (Int.lt_trans h (lt_of_bits hy)) (Nat.le_refl _)
theorem wd_facts (first second : Int) : 1 ≤ wdF first second ∧ wdF first second ≤ 30000 ∧ 9 * (1 + intBits (szF second) / 15) ≤ wdF first second := by
  have h1 := Int.emod_nonneg first (show (60 : Int) ≠ 0 by decide)
  have h2 := Int.emod_lt_of_pos first (show (0 : Int) < 60 by decide)
  have hb := bits_of_sz second
  have h3 : (9 + (first % 60).toNat) * (1 + intBits (szF second) / 15) ≤ 68 * 294 := Nat.mul_le_mul (by omega) (by omega)
  have h4 : 9 * (1 + intBits (szF second) / 15) ≤ (9 + (first % 60).toNat) * (1 + intBits (szF second) / 15) := Nat.mul_le_mul_right _ (by omega)
  unfold wdF
  exact ⟨by omega, by omega, h4⟩
theorem alt_two {n : Nat} {l : List Int} (h : l.length ≤ 2) (hd : ∀ d ∈ l, 0 ≤ d ∧ d < 2 ^ n) : intBits (dval n (alt l).1) ≤ n ∧ intBits (dval n (alt l).2) ≤ n := by
  have z : intBits (0 : Int) ≤ n := by rw [bits_zero]; exact Nat.zero_le _
  have b : ∀ d ∈ l, intBits (d + 2 ^ n * 0) ≤ n := fun d hm => by rw [Int.mul_zero, Int.add_zero]; exact bits_of_lt (hd d hm).1 (hd d hm).2 (Nat.le_refl _)
  match l, h with
  | [], _ => exact ⟨z, z⟩
  | [x], _ => exact ⟨b x (.head _), z⟩
  | [x, y], _ => exact ⟨b x (.head _), b y (.tail _ (.head _))⟩
theorem dig_ok (first second : Int) : DigOk (bdF second) (wdF first second) 5 := by
  intro q h0 h1
  obtain ⟨w1, w2, w3⟩ := wd_facts first second
  have hb := bits_of_sz second
  have hB := bd_pos second
  have hq : q < bdF second ^ 4 := by
    rw [Int.pow_succ, Int.mul_comm] at h1
    exact Int.lt_of_mul_lt_mul_right h1 (Int.le_of_lt hB)
  have kq : intBits q ≤ 4 * (15 + intBits (szF second)) + 1 := Nat.le_trans (bits_le_of_lt h0 hq (pow_bits (bd_bits second) 4)) (by omega)
  generalize wdF first second = W at *
  generalize intBits (szF second) = b at *
  have hnd : (intBits q + W - 1) / W ≤ 64 := Nat.le_trans (Nat.div_le_div_right (show intBits q + W - 1 ≤ 64 * W by omega)) (by rw [Nat.mul_div_cancel _ (by omega)]; exact Nat.le_refl _)
  refine ⟨by omega, hnd, ?_⟩
  by_cases hs : W ≤ 8900
  · obtain ⟨a1, a2⟩ := alt_le (dgs_ok (W := W) (q := q))
    rw [dgs_val w1 h0] at a1 a2
    have n1 : 0 ≤ dval W (alt (dgs W q)).1 := dval_nonneg fun d hd => dgs_ok d (alt_mem (.inl hd))
    have n2 : 0 ≤ dval W (alt (dgs W q)).2 := dval_nonneg fun d hd => dgs_ok d (alt_mem (.inr hd))
    exact ⟨60000, by decide, .inl hs, bits_of_lt n1 (Int.lt_of_le_of_lt a1 (lt_of_bits (Nat.le_refl _))) (by omega), bits_of_lt n2 (Int.lt_of_le_of_lt a2 (lt_of_bits (Nat.le_refl _))) (by omega)⟩
  · have h2 : (intBits q + W - 1) / W ≤ 2 := Nat.lt_succ_iff.mp ((Nat.div_lt_iff_lt_mul (by omega)).mpr (by omega))
    obtain ⟨a1, a2⟩ := alt_two (n := W) (l := dgs W q) (by unfold dgs; rw [digs_length]; exact h2) dgs_ok
    exact ⟨W, by omega, .inr (by omega), a1, a2⟩
theorem div_ok (second : Int) : ∀ M, 0 ≤ M → M < bdF second ^ 5 → intBits M ≤ 60000 ∧ (intBits M + intBits (bdF second) - 1) / intBits (bdF second) ≤ 64 := by
  intro M h0 h1
  have hb := bits_of_sz second
  have hB := bd_pos second
  have kB := bd_bits second
  have k1 := bits_pos (Int.ne_of_gt hB)
  have kM : intBits M ≤ 1 + intBits (bdF second) * 5 := bits_le_of_lt h0 h1 (pow_bits (Nat.le_refl _) 5)
  generalize intBits (bdF second) = n at *
  refine ⟨by omega, Nat.le_trans (Nat.div_le_div_right (show intBits M + n - 1 ≤ 64 * n by omega)) (by rw [Nat.mul_div_cancel _ (by omega)]; exact Nat.le_refl _)⟩

section
variable {prog : Program} {w : World} {A : Around} {R : Result → Shared → Prop}
/-- the turns of a dict comprehension over tuples -/
theorem codeAny_compLoop_dictT {kx vx iter : PySem.Expr} {elts : List PySem.Expr} {x1} {tp : Pos} {scope : Scope} {pos : Pos} {it : Value} {D : Addr} {env : Env} {s : Shared} (I : Nat → Shared → Prop)
    (turn : ∀ n s, I n s → wpAny (model prog w) A (pyNext it) (fun r s₁ => match r with
      | none => R (.ok .next) s₁
      | some v => wpAny (model prog w) A (letOwnedTupleGo (.Tuple elts x1 tp) it v) (fun _ s₁' => wpAny (model prog w) A (assign (.Tuple elts x1 tp) env v) (fun _ s₂ =>
          wpAny (model prog w) A (eval kx env) (fun kv s₄ => wpAny (model prog w) A (eval vx env) (fun vv s₅ =>
              wpAny (model prog w) A (dictSet D kv vv) (fun _ s₆ => ∃ m, m < n ∧ I m s₆) (notedBy (model prog w) A env fun e s' => R (.error e) s') s₅) (notedBy (model prog w) A env fun e s' => R (.error e) s') s₄) (notedBy (model prog w) A env fun e s' => R (.error e) s') s₂)
          (notedBy (model prog w) A env fun e s' => R (.error e) s') s₁') (notedBy (model prog w) A env fun e s' => R (.error e) s') s₁) (notedBy (model prog w) A env fun e s' => R (.error e) s') s)
    (n : Nat) (h : I n s) : codeAny (model prog w) A (.compLoop (.DictComp kx vx [⟨.Tuple elts x1 tp, iter, [], 0⟩] scope pos) 0 it (.ref D) env) R s := by
  refine codeAny_loop rfl I (fun n s hI => ?_) n h
  show wpAny _ A ((compTurn (.DictComp kx vx [⟨.Tuple elts x1 tp, iter, [], 0⟩] scope pos) 0 it (.ref D) env).onRaise (fun x => do noteFrame x env; theTreesLotGoes x)) _ _ s
  refine wpAny_noted ?_
  rw [compTurn_dict]
  refine wpAny_bind (wpAny_standAt (wpAny_bind (wpAny_mono (turn n s hI) (fun r s₁ h₁ => ?_) fun _ _ h' => h')))
  cases r with
  | none => exact wpAny_pure h₁
  | some v =>
    refine wpAny_bind (wpAny_mono h₁ (fun _ s₁' h₁' => ?_) fun _ _ h' => h')
    refine wpAny_bind (wpAny_mono h₁' (fun _ s₂ h₂ => wpAny_bind (wpAny_mono (wpAny_tests_nil (Q := fun ok s₃ => ok = true ∧ s₃ = s₂) ⟨rfl, rfl⟩) (fun ok s₃ h₃ => ?_) fun _ _ h' => h')) fun _ _ h' => h')
    obtain ⟨rfl, rfl⟩ := h₃
    exact wpAny_bind (wpAny_bind (wpAny_mono h₂ (fun kv s₄ h₄ => wpAny_bind (wpAny_holding (wpAny_mono h₄ (fun vv s₅ h₅ => wpAny_bind (wpAny_standAt (wpAny_holding (wpAny_mono h₅ (fun _ s₆ h₆ => wpAny_pure ⟨rfl, h₆⟩) fun _ _ h' => h')))) fun _ _ h' => h'))) fun _ _ h' => h'))
end
noncomputable abbrev pairO (a b : Value) : Obj := { cls := .type "tuple", data := .seq #[a, b] }
/-- what a dict made of rows holds -/
inductive BkAre (bks : Led) : List (List Nat × Int) → List (Str × Value) → Prop
  | nil : BkAre bks [] []
  | snoc {rs kvs r a t t'} : BkAre bks rs kvs → (a, pairO (.str (rowS (modeOf r.2)) t) (.int (r.2 / 28672) t')) ∈ bks → BkAre bks (rs ++ [r]) (stored kvs (pthS r.1) (.ref a))
theorem BkAre.mono {bks bks' : Led} (h : ∀ p ∈ bks, p ∈ bks') {rs kvs} (x : BkAre bks rs kvs) : BkAre bks' rs kvs := by
  induction x with
  | nil => exact .nil
  | snoc _ hm ih => exact .snoc ih (h _ hm)
theorem BkAre.length_le {bks : Led} {rs kvs} (x : BkAre bks rs kvs) : kvs.length ≤ rs.length := by
  induction x with
  | nil => exact Nat.le_refl _
  | @snoc rs kvs r a t t' _ hm ih =>
    have := stored_length_le kvs (pthS r.1) (.ref a)
    rw [List.length_append, List.length_singleton]; omega
theorem news_chg {g h h' : Heap} {L I : Addr} {o o' : Obj} {l : Led} (N : News g L h ((I, o) :: l)) (hl : ∀ p ∈ l, p.1 ≠ I) (hx : ∀ b o, b ≠ I → h.get? b = some o → h'.get? b = some o) (ho : h'.get? I = some o') : News g L h' ((I, o') :: l) := by
  intro p hp
  rcases List.mem_cons.mp hp with rfl | hp
  · exact ⟨ho, (N _ (.head _)).2⟩
  · have z := N p (.tail _ hp)
    exact ⟨hx _ _ (hl p hp) z.1, z.2⟩
theorem fr_chg {g h h' : Heap} {L I : Addr} {m : Str → Option Value} {o : Obj} {l : Led} (F : Fr g L h m) (N : News g L h ((I, o) :: l)) (hx : ∀ b o, b ≠ I → h.get? b = some o → h'.get? b = some o) : Fr g L h' m :=
  LCg.fr_but F (I := I) (fun b o hb e => hx b o (fun q => hb (List.mem_singleton.mpr q)) e) (Ne.symm (N _ (.head _)).2.1) (N _ (.head _)).2.2
theorem rowsAre_at {z : Bool} {tups : Led} : ∀ {vs rs} {i : Nat} {v : Value}, RowsAre z tups vs rs → vs[i]? = some v → ∃ r, rs[i]? = some r ∧ FileAt z tups v r
  | _, _, _, _, .nil, h => by cases h
  | _, _, 0, _, .cons hf _, h => by cases h; exact ⟨_, rfl, hf⟩
  | _, _, i + 1, v, .cons _ hr, h => rowsAre_at (i := i) (v := v) hr h
theorem allLt_mem {d : Addr} : ∀ {l : Led}, AllLt d l → ∀ p ∈ l, p.1 < d
  | [], _, _, h => nomatch h
  | _ :: _, h, p, hp => (List.mem_cons.mp hp).elim (fun e => e ▸ h.1) fun q => allLt_mem h.2 p q
section
variable {w : World} {A : Around} {E : Value → Shared → Prop} {s : Shared} {h₀ : Heap} {L : Addr} {m : Str → Option Value} {env : Env}
open LCg in
/-- rows made a dict: path -> (row, size) -/
theorem dict_rows {kx vx iter : PySem.Expr} {p1 p2 p3 tp : Pos} {x1} {scope : Scope} {cl : List (Str × Addr)} {pos spos py : Pos} {y : Str} {z : Bool} {lst : Addr} {vals : List Value} {n0 : Nat} {rows : List (List Nat × Int)} {core tups : Led} {Q : Flow → Shared → Prop}
    (hLe : env.locals = L) (hsw : swapsWith (.DictComp kx vx [⟨.Tuple [.Name "row" p1, .Name "size" p2, .Name "path" p3] x1 tp, iter, [], 0⟩] scope pos) (some (.Name y py)) spos.line env = pure true)
    (hy : env.kindOf y = some .local) (hcls : (env.scope.kind == .class || (env.scope.kind == .module && env.locals != env.globals)) = false)
    (hclos : closureFor scope env = pure cl) (hcell : ∀ y ∈ scope.names, y.2 ≠ .cell) (hkind : scope.kind = .function)
    (hnames : ∀ y ∈ scope.names, y.2 = .local → scope.names.lookup y.1 = some .local) (hx1 : scope.names.lookup ("row" : Str) = some .local) (hx2 : scope.names.lookup ("size" : Str) = some .local) (hx3 : scope.names.lookup ("path" : Str) = some .local) (hh : A.handled = none)
    (hm : (lst, listOf (List.toArray vals) n0) ∈ core) (htups : ∀ p ∈ tups, p ∈ core) (hrows : RowsAre z tups vals rows) (hsz : vals.length ≤ sizeLine)
    (hkey : ∀ r pv C oC m₂ h tk X (R1 E' : Value → Shared → Prop), r ∈ rows → PathV z r.1 pv → NsObj oC m₂ → m₂ "path" = some pv → Fr h₀ L h m → News h₀ L h ((C, oC) :: (core ++ X)) → (∀ p ∈ core, p.1 ≠ C) →
      (∀ t h' tk', Fr h₀ L h' m → News h₀ L h' ((C, oC) :: (core ++ X)) → R1 (.str (pthS r.1) t) { s with heap := h', toks := tk' }) → wpAny (model PR w) A (eval kx (compEnvC scope cl C env)) R1 E' { s with heap := h, toks := tk })
    (hval : ∀ row t size t' C oC m₂ h tk X (R1 E' : Value → Shared → Prop), NsObj oC m₂ → m₂ "row" = some (.str row t) → m₂ "size" = some (.int size t') → Fr h₀ L h m → News h₀ L h ((C, oC) :: X) →
      (∀ a h' tk', Fr h₀ L h' m → News h₀ L h' ((a, pairO (.str row t) (.int size t')) :: (C, oC) :: X) → (∀ p ∈ (C, oC) :: X, p.1 ≠ a) → R1 (.ref a) { s with heap := h', toks := tk' }) → wpAny (model PR w) A (eval vx (compEnvC scope cl C env)) R1 E' { s with heap := h, toks := tk })
    (h : wpAny (model PR w) A (eval iter env) (fun xv s₁ => ∃ h tk, xv = .ref lst ∧ s₁ = { s with heap := h, toks := tk } ∧ Fr h₀ L h m ∧ News h₀ L h core) E s)
    (hQ : ∀ D oD bks kvs h tk, Fr h₀ L h (fun x => if x = y then some (.ref D) else m x) → News h₀ L h ((D, oD) :: (bks ++ core)) → Obj.IsDictOf (strKind PR w) oD kvs → BkAre bks rows kvs → @LT.lt Nat _ L D → Q .next { s with heap := h, toks := tk })
    (hs : ∀ x, foldedSetIterable iter env x = pure x := by intro _; rfl) :
    wpAny (model PR w) A (exec (.Assign [.Name y py] (.DictComp kx vx [⟨.Tuple [.Name "row" p1, .Name "size" p2, .Name "path" p3] x1 tp, iter, [], 0⟩] scope pos) spos) env) Q E s := by
  subst hLe
  rw [exec_Assign_Name_used _ _ _ _ hsw]
  refine wpAny_bind (wpAny_standAt (wpAny_bind ?_))
  show wpAny _ A (do let _ ← comprehension (.DictComp kx vx [⟨.Tuple [.Name "row" p1, .Name "size" p2, .Name "path" p3] x1 tp, iter, [], 0⟩] scope pos) scope env _ newDict false (eval iter env) (some (assign (.Name y py) env))) _ _ s
  refine wpAny_bind (wpAny_mono (wpAny_comprehension_free (use := some (assign (.Name y py) env)) (Q := fun _ s' => Q .next s') rfl hs hclos hkind hnames
    (wpAny_mono h (fun xv s₁ h₁ => ?_) fun _ _ e => e)) (fun _ s' hq => wpAny_pure (wpAny_pure hq)) fun _ _ e => e)
  obtain ⟨h1, tk1, rfl, rfl, F1, N1⟩ := h₁
  have listAt : ∀ {hp : Heap} {l : Led}, News h₀ env.locals hp l → (lst, listOf (List.toArray vals) n0) ∈ l → hp.IsList lst vals.toArray := fun N hq => ⟨_, (N _ hq).1, rfl, _, rfl⟩
  have hl := listAt N1 hm
  refine wpAny_pyIter_list hl ?_
  dsimp only
  -- the iterator
  have N2 := N1.push F1 { cls := .type "list_iterator", data := .fields #[.ref lst, .int 0 0] }
  have F2 := F1.push { cls := .type "list_iterator", data := .fields #[.ref lst, .int 0 0] }
  have lI : ∀ p ∈ core, p.1 ≠ h1.objs.size := fun p hp => Nat.ne_of_lt (Heap.lt_size (N1 p hp).1)
  generalize hI : h1.objs.size = I at *
  generalize hh2 : h1.push { cls := .type "list_iterator", data := .fields #[.ref lst, .int 0 0] } = h2 at *
  -- the dict
  refine wpAny_newObj_type ?_
  dsimp only
  have N3 := N2.push F2 { cls := .type "dict", dict := none, data := .dict #[] }
  have F3 := F2.push { cls := .type "dict", dict := none, data := .dict #[] }
  have lD : ∀ p ∈ (I, ({ cls := .type "list_iterator", data := .fields #[.ref lst, .int 0 0] } : Obj)) :: core, p.1 ≠ h2.objs.size := fun p hp => Nat.ne_of_lt (Heap.lt_size (N2 p hp).1)
  have hLD : env.locals < h2.objs.size := F2.ns.lt
  generalize hD : h2.objs.size = D at *
  generalize hh3 : h2.push { cls := .type "dict", dict := none, data := .dict #[] } = h3 at *
  refine wpAny_newFunctionEnv hcell (by intro y hy; simp at hy) (fun h4 hns4 hsb4 => ?_) hkind
  have up4 : ∀ b o, h3.get? b = some o → h4.get? b = some o := fun b o e => hsb4.extBut b o (Nat.ne_of_lt (Heap.lt_size e)) (Heap.get?_push_of_some _ e)
  have F4 := F3.keeps up4
  have lC : ∀ p ∈ (D, ({ cls := .type "dict", dict := none, data := .dict #[] } : Obj)) :: (I, ({ cls := .type "list_iterator", data := .fields #[.ref lst, .int 0 0] } : Obj)) :: core, p.1 ≠ h3.objs.size := fun p hp => Nat.ne_of_lt (Heap.lt_size (N3 p hp).1)
  have hC0 : h₀.get? h3.objs.size = none := next_is_new F3
  have hCL : h3.objs.size ≠ env.locals := Ne.symm (Nat.ne_of_lt F3.ns.lt)
  have N4 := N3.grown up4
  dsimp only at hns4 ⊢
  obtain ⟨oC, heC, hoC⟩ := ns_obj hns4
  generalize hC : h3.objs.size = C at *
  have hDI : I ≠ D := lD _ (.head _)
  have hCI : I ≠ C := lC _ (.tail _ (.head _))
  have hCD : D ≠ C := lC _ (.head _)
  have cC : ∀ p ∈ core, p.1 ≠ C := fun p hp => lC p (.tail _ (.tail _ hp))
  have cD : ∀ p ∈ core, p.1 ≠ D := fun p hp => lD p (.tail _ hp)
  have loop : ∀ h tk, h = h4 → codeAny (model PR w) A (.compLoop (.DictComp kx vx [⟨.Tuple [.Name "row" p1, .Name "size" p2, .Name "path" p3] x1 tp, iter, [], 0⟩] scope pos) 0 (.ref I) (.ref D) (compEnvC scope cl C env)) (compPost (model PR w) A E (some (assign (.Name y py) env)) (fun _ s' => Q .next s') (.ref D) C) { s with heap := h, toks := tk } := by
    rintro h tk rfl
    refine codeAny_compLoop_dictT (fun k s' => ∀ P : Prop, (∀ (i : Nat) h tk oI oC oD bks kvs m', k = vals.length + 1 - i → i ≤ vals.length → s' = { s with heap := h, toks := tk } → Fr h₀ env.locals h m → News h₀ env.locals h ((I, oI) :: (C, oC) :: (D, oD) :: (bks ++ core)) → NsObj oC m' →
      oI.cls = .type "list_iterator" → oI.data = .fields #[.ref lst, .int i 0] → Obj.IsDictOf (strKind PR w) oD kvs → BkAre bks (rows.take i) kvs → (∀ p ∈ bks, p.1 ≠ I ∧ p.1 ≠ C ∧ p.1 ≠ D) → P) → P) ?_ (vals.length + 1)
      (fun _ k => k 0 h tk { cls := .type "list_iterator", data := .fields #[.ref lst, .int 0 0] } oC { cls := .type "dict", dict := none, data := .dict #[] } [] [] _ rfl (Nat.zero_le _) rfl F4 (fun p hp => ?_) hoC rfl rfl ⟨#[], 0, ⟨rfl, rfl, rfl⟩, rfl, fun _ he => by simp at he, Pairs.nil, List.nodup_nil⟩ .nil (fun p hp => nomatch hp))
    rotate_left
    · rcases List.mem_cons.mp hp with rfl | hp
      · exact N4 _ (.tail _ (.head _))
      rcases List.mem_cons.mp hp with rfl | hp
      · exact ⟨heC, hCL, hC0⟩
      rcases List.mem_cons.mp hp with rfl | hp
      · exact N4 _ (.head _)
      · exact N4 _ (.tail _ (.tail _ hp))
    intro k s' hJ
    refine hJ _ ?_
    clear hJ
    rintro i h tk oI oC oD bks kvs m' rfl hi rfl F N hC' hIc hId hDo hB hbk
    have oI1 : ∀ p ∈ (C, oC) :: (D, oD) :: (bks ++ core), p.1 ≠ I := by
      intro p hp
      rcases List.mem_cons.mp hp with rfl | hp
      · exact Ne.symm hCI
      rcases List.mem_cons.mp hp with rfl | hp
      · exact Ne.symm hDI
      rcases List.mem_append.mp hp with hp | hp
      · exact (hbk p hp).1
      · exact lI p hp
    have hmL : (lst, listOf (List.toArray vals) n0) ∈ (I, oI) :: (C, oC) :: (D, oD) :: (bks ++ core) := .tail _ (.tail _ (.tail _ (List.mem_append_right _ hm)))
    by_cases hlt : i < vals.length
    · refine wpAny_pyNext_list_item ⟨oI, (N _ (.head _)).1, hIc, hId⟩ (listAt N hmL) (x := vals[i]) (by simp [hlt]) fun h5 hit5 hs5 => ?_
      obtain ⟨r, hr, a, t, t', pv, hv, hpv, hmt⟩ := rowsAre_at hrows (List.getElem?_eq_getElem hlt)
      rw [hv]
      dsimp only
      obtain ⟨oI', hoI', hc', hd'⟩ := hit5
      have N5 := news_chg N oI1 (fun b o hb e => hs5.extBut b o hb e) hoI'
      have F5 := fr_chg F N (fun b o hb e => hs5.extBut b o hb e)
      refine wpAny_letOwnedTupleGo_listiter ⟨oI', hoI', hc', hd'⟩ ?_
      have hmt' : (a, tup3 (.str (rowS (modeOf r.2)) t) (.int (r.2 / 28672) t') pv) ∈ (I, oI') :: (C, oC) :: (D, oD) :: (bks ++ core) := .tail _ (.tail _ (.tail _ (List.mem_append_right _ (htups _ hmt))))
      refine assign_Tuple_tuple hh ⟨_, (N5 _ hmt').1, rfl, _, rfl⟩ rfl rfl fun h6 he6 => ?_
      have up6 : ∀ b o, h5.get? b = some o → h6.get? b = some o := fun b o e => he6 b o (Nat.ne_of_lt (Heap.lt_size e)) e
      refine assignInOrder_cons (wpAny_assign_Name (wpAny_storeName_local (lookup_relabel_local hx1) ((hC'.ns (N5 _ (.tail _ (.head _))).1).at' fun o e => up6 _ o e) (fun h7 hn7 hs7 => ?_) (by simp [compEnvC, relabel, hkind])))
      refine assignInOrder_cons (wpAny_assign_Name (wpAny_storeName_local (lookup_relabel_local hx2) hn7 (fun h8 hn8 hs8 => ?_) (by simp [compEnvC, relabel, hkind])))
      refine assignInOrder_cons (wpAny_assign_Name (wpAny_storeName_local (lookup_relabel_local hx3) hn8 (fun h9 hn9 hs9 => ?_) (by simp [compEnvC, relabel, hkind])))
      refine assignInOrder_nil ?_
      have up9 : ∀ b o, b ≠ C → h5.get? b = some o → h9.get? b = some o := fun b o hb e => hs9.extBut b o hb (hs8.extBut b o hb (hs7.extBut b o hb (up6 b o e)))
      obtain ⟨oC', heC', hoC'⟩ := ns_obj hn9
      have N5' : News h₀ env.locals h5 ((C, oC) :: (core ++ ((I, oI') :: (D, oD) :: bks))) := news_pick [[(I, oI')], [(C, oC)], [(D, oD)], bks, core] [1, 4, 0, 2, 3] N5
      have oC1 : ∀ p ∈ core ++ ((I, oI') :: (D, oD) :: bks), p.1 ≠ C := by
        intro p hp
        rcases List.mem_append.mp hp with hp | hp
        · exact cC p hp
        rcases List.mem_cons.mp hp with rfl | hp
        · exact hCI
        rcases List.mem_cons.mp hp with rfl | hp
        · exact hCD
        · exact (hbk p hp).2.1
      have N9 := news_chg N5' oC1 up9 heC'
      have F9 := fr_chg F5 N5' up9
      refine hkey r pv C oC' _ h9 _ ((I, oI') :: (D, oD) :: bks) _ _ (List.mem_of_getElem? hr) hpv hoC' (if_pos rfl) F9 N9 cC fun tt h10 tk10 F10 N10 => ?_
      refine hval _ t _ t' C oC' _ h10 tk10 (core ++ ((I, oI') :: (D, oD) :: bks)) _ _ hoC' (by rw [if_neg (by decide), if_neg (by decide), if_pos rfl]) (by rw [if_neg (by decide), if_pos rfl]) F10 N10 fun a' h11 tk11 F11 N11 hna => ?_
      have hkl : kvs.length ≤ sizeLine := Nat.le_trans hB.length_le (Nat.le_trans (List.length_take_le _ _) (Nat.le_trans (Nat.le_of_lt hlt) hsz))
      have mD : (D, oD) ∈ (a', pairO (.str (rowS (modeOf r.2)) t) (.int (r.2 / 28672) t')) :: (C, oC') :: (core ++ ((I, oI') :: (D, oD) :: bks)) := .tail _ (.tail _ (List.mem_append_right _ (.tail _ (.head _))))
      refine wpAny_dictSet_pairs (hsz := hkl) (knd := strKind PR w) (k := pthS r.1) (kvs := kvs) (decide_eq_true rfl) (Heap.dictOf_iff.mpr ⟨oD, (N11 _ mD).1, hDo⟩) fun h12 hd12 hs12 => ?_
      obtain ⟨oD', heD', hDo'⟩ := Heap.dictOf_iff.mp hd12
      have N11' : News h₀ env.locals h11 ((D, oD) :: (a', pairO (.str (rowS (modeOf r.2)) t) (.int (r.2 / 28672) t')) :: (I, oI') :: (C, oC') :: (bks ++ core)) := news_pick [[(a', pairO (.str (rowS (modeOf r.2)) t) (.int (r.2 / 28672) t'))], [(C, oC')], core, [(I, oI')], [(D, oD)], bks] [4, 0, 3, 1, 5, 2] N11
      have oD1 : ∀ p ∈ (a', pairO (.str (rowS (modeOf r.2)) t) (.int (r.2 / 28672) t')) :: (I, oI') :: (C, oC') :: (bks ++ core), p.1 ≠ D := by
        intro p hp
        rcases List.mem_cons.mp hp with rfl | hp
        · exact Ne.symm (hna _ (.tail _ (List.mem_append_right _ (.tail _ (.head _)))))
        rcases List.mem_cons.mp hp with rfl | hp
        · exact hDI
        rcases List.mem_cons.mp hp with rfl | hp
        · exact Ne.symm hCD
        rcases List.mem_append.mp hp with hp | hp
        · exact (hbk p hp).2.2
        · exact cD p hp
      have N12 := news_chg N11' oD1 (fun b o hb e => hs12.extBut b o hb e) heD'
      have F12 := fr_chg F11 N11' (fun b o hb e => hs12.extBut b o hb e)
      refine ⟨vals.length + 1 - (i + 1), Nat.sub_lt_sub_left (Nat.lt_succ_of_lt hlt) (Nat.lt_succ_self i), fun _ k => k (i + 1) h12 _ oI' oC' oD' ((a', pairO (.str (rowS (modeOf r.2)) t) (.int (r.2 / 28672) t')) :: bks) _ _ rfl hlt rfl F12 (news_pick [[(D, oD')], [(a', pairO (.str (rowS (modeOf r.2)) t) (.int (r.2 / 28672) t'))], [(I, oI')], [(C, oC')], bks, core] [2, 3, 0, 1, 4, 5] N12) hoC' hc' hd' hDo' ?_ (fun p hp => ?_)⟩
      · rw [List.take_add_one, hr]
        exact .snoc (hB.mono fun _ => .tail _) (.head _)
      · rcases List.mem_cons.mp hp with rfl | hp
        · exact ⟨Ne.symm (hna _ (.tail _ (List.mem_append_right _ (.head _)))), Ne.symm (hna _ (.head _)), Ne.symm (hna _ (.tail _ (List.mem_append_right _ (.tail _ (.head _)))))⟩
        · exact hbk p hp
    · obtain rfl : i = vals.length := Nat.le_antisymm hi (Nat.not_lt.mp hlt)
      refine wpAny_pyNext_list_end hh ⟨oI, (N _ (.head _)).1, hIc, hId⟩ (listAt N hmL) (by simp) fun h5 he5 => ?_
      dsimp only
      have N5 : News h₀ env.locals h5 ((C, oC) :: (D, oD) :: (bks ++ core)) := fun p hp => ⟨he5 _ _ (oI1 p hp) (N p (.tail _ hp)).1, (N p (.tail _ hp)).2⟩
      have F5 := fr_chg F N he5
      show wpAny _ A (assign (.Name y py) env (.ref D)) _ _ _
      refine wpAny_assign_Name (wpAny_storeName_local hy F5.ns (fun h7 hn7 hs7 => ?_) hcls)
      have hL₀ : h₀.get? env.locals = none := Heap.get?_none_of_le F5.above
      have F7 : Fr h₀ env.locals h7 (fun z => if z = y then some (.ref D) else m z) := ⟨hn7, fun b o e => hs7.extBut b o (fun q => by rw [q, hL₀] at e; cases e) (F5.keep b o e), F5.above⟩
      have N7 : News h₀ env.locals h7 ((C, oC) :: (D, oD) :: (bks ++ core)) := fun p hp => ⟨hs7.extBut _ _ (N5 p hp).2.1 (N5 p hp).1, (N5 p hp).2⟩
      refine ⟨m', hC'.ns (N7 _ (.head _)).1, fun h6 hs6 => ?_⟩
      have oC1 : ∀ p ∈ (D, oD) :: (bks ++ core), p.1 ≠ C := by
        intro p hp
        rcases List.mem_cons.mp hp with rfl | hp
        · exact hCD
        rcases List.mem_append.mp hp with hp | hp
        · exact (hbk p hp).2.1
        · exact cC p hp
      rw [List.take_of_length_le (Nat.le_of_eq hrows.length.symm)] at hB
      exact hQ D oD bks kvs h6 _ (fr_chg F7 N7 fun b o hb e => hs6.extBut b o hb e) (fun p hp => ⟨hs6.extBut _ _ (oC1 p hp) (N7 p (.tail _ hp)).1, (N7 p (.tail _ hp)).2⟩) hDo hB hLD
  exact codeAny_compStart_dict (loop _ _ rfl) (wpAny_pyIter_listiter ⟨_, (N4 _ (.tail _ (.head _))).1, rfl, rfl⟩ (loop _ _ rfl))
end

section
variable {B : Int} {W : Nat}
theorem lnsG_path {sub : Int → List Nat → Rows} {S : Nat} (hs : ∀ N ps, (∀ x ∈ ps, x < 10) → ∀ r ∈ sub N ps, (∀ x ∈ r.1, x < 10) ∧ r.1.length ≤ ps.length + S) :
    ∀ k N j ps, j + k ≤ 10 → (∀ x ∈ ps, x < 10) → ∀ r ∈ lnsG B W sub k N j ps, (∀ x ∈ r.1, x < 10) ∧ r.1.length ≤ ps.length + (S + 1)
  | 0, _, _, _, _, _, _, h => nomatch h
  | k + 1, N, j, ps, hj, hp, r, hr => by
    have hp' : ∀ x ∈ ps ++ [j], x < 10 := fun x hx => (List.mem_append.mp hx).elim (hp x) fun h => by rw [List.mem_singleton.mp h]; omega
    rw [lnsG] at hr
    split at hr
    · exact nomatch hr
    · rcases List.mem_cons.mp hr with rfl | hr
      · exact ⟨hp', by rw [List.length_append, List.length_singleton]; omega⟩
      · rcases List.mem_append.mp hr with hr | hr
        · split at hr
          · have := hs _ _ hp' r hr
            rw [List.length_append, List.length_singleton] at this
            exact ⟨this.1, by omega⟩
          · exact nomatch hr
        · exact lnsG_path hs k _ _ _ (by omega) hp r hr
theorem lns_path : ∀ d N ps, d ≤ 10 → (∀ x ∈ ps, x < 10) → ∀ r ∈ lns B W d N ps, (∀ x ∈ r.1, x < 10) ∧ r.1.length ≤ ps.length + d
  | 0, _, _, _, _, _, h => nomatch h
  | d + 1, N, ps, hd, hp, r, hr => lnsG_path (fun N ps hp => lns_path d N ps (by omega) hp) (d + 1) N 0 ps (by omega) hp r hr
end
theorem pthN_lt : ∀ {ps : List Nat}, (∀ x ∈ ps, x < 10) → ∀ y ∈ pthN ps, y < 128
  | [], _, _, h => nomatch h
  | p :: r, hp, y, h => by
    rw [pthN] at h
    rcases List.mem_cons.mp h with rfl | h
    · decide
    rcases List.mem_cons.mp h with rfl | h
    · have := hp p (.head _); omega
    · exact pthN_lt (fun x hx => hp x (.tail _ hx)) y h
theorem valueAt_app {kvs : List (Str × Value)} {k x : Str} {v : Value} : valueAt (kvs ++ [(k, v)]) x = (valueAt kvs x).or (if k = x then some v else none) := by
  unfold valueAt
  rw [List.find?_append]
  cases kvs.find? fun kv => kv.1 = x with
  | some y => rfl
  | none =>
    by_cases e : k = x <;> simp [e]
theorem stored_new {kvs : List (Str × Value)} {k : Str} {v : Value} (h : k ∉ kvs.map (·.1)) : stored kvs k v = kvs ++ [(k, v)] := by
  unfold stored
  rw [if_neg]
  intro q
  obtain ⟨x, hx, e⟩ := List.any_eq_true.mp q
  exact h (of_decide_eq_true e ▸ List.mem_map_of_mem hx)
/-- what the book tells -/
noncomputable def BookFit (bks : Led) (rs : List (List Nat × Int)) (kvs : List (Str × Value)) : Prop := ∀ ps, match rs.lookup ps with
    | none => valueAt kvs (pthS ps) = none
    | some c => ∃ a t t', valueAt kvs (pthS ps) = some (.ref a) ∧ (a, pairO (.str (rowS (modeOf c)) t) (.int (c / 28672) t')) ∈ bks
inductive ValsAre (bks : Led) : List (List Nat × Int) → List Value → Prop
  | nil : ValsAre bks [] []
  | snoc {rs vs r a t t'} : ValsAre bks rs vs → (a, pairO (.str (rowS (modeOf r.2)) t) (.int (r.2 / 28672) t')) ∈ bks → ValsAre bks (rs ++ [r]) (vs ++ [.ref a])
theorem bkAre_fit {bks : Led} {rs : List (List Nat × Int)} {kvs : List (Str × Value)} (x : BkAre bks rs kvs) : (rs.map (·.1)).Nodup → kvs.map (·.1) = rs.map (fun r => pthS r.1) ∧ BookFit bks rs kvs ∧ ValsAre bks rs (kvs.map (·.2)) := by
  induction x with
  | nil => exact fun _ => ⟨rfl, fun ps => rfl, .nil⟩
  | @snoc rs kvs r a t t' _ hm ih =>
    intro hn
    rw [List.map_append, List.nodup_append] at hn
    obtain ⟨n1, _, n3⟩ := hn
    obtain ⟨i1, i2, i3⟩ := ih n1
    have hnew : pthS r.1 ∉ kvs.map (·.1) := by
      rw [i1]
      intro h
      obtain ⟨q, hq, e⟩ := List.mem_map.mp h
      exact n3 _ (List.mem_map_of_mem hq) _ (.head _) (pthS_inj e)
    rw [stored_new hnew]
    refine ⟨by rw [List.map_append, List.map_append, i1]; rfl, fun ps => ?_, by rw [List.map_append]; exact .snoc i3 hm⟩
    have h2 := i2 ps
    rw [lookup_app, valueAt_app]
    obtain ⟨rp, rc⟩ := r
    revert h2
    cases hl : rs.lookup ps with
    | some c =>
      rintro ⟨a', t1, t2, e, hm'⟩
      exact ⟨a', t1, t2, by rw [e]; rfl, hm'⟩
    | none =>
      intro e
      rw [e, Option.none_or, List.lookup_cons]
      by_cases hp : ps = rp
      · subst hp
        rw [beq_self_eq_true]
        exact ⟨a, t, t', by rw [if_pos rfl]; rfl, hm⟩
      · rw [beq_eq_false_iff_ne.mpr hp]
        show (none : Option Value).or _ = none
        rw [if_neg fun q => hp (pthS_inj q).symm]
        rfl
theorem bookAt_of {w : World} {D : Addr} {oD : Obj} {bks core : Led} {g h : Heap} {L : Addr} {rs : List (List Nat × Int)} {kvs : List (Str × Value)} (N : News g L h ((D, oD) :: (bks ++ core))) (hD : Obj.IsDictOf (strKind PR w) oD kvs) (hF : BookFit bks rs kvs) (hs : (D == sysModules) = false) : BookAt w D (fun ps => rs.lookup ps) h := by
  refine ⟨hs, kvs, Heap.dictOf_iff.mpr ⟨oD, (N _ (.head _)).1, hD⟩, fun ps => ?_⟩
  have h2 := hF ps
  revert h2
  dsimp only
  cases rs.lookup ps with
  | none => exact id
  | some c =>
    rintro ⟨a, t, t', e, hm⟩
    exact ⟨a, t, t', e, _, (N _ (.tail _ (List.mem_append_left _ hm))).1, rfl, _, rfl⟩

section
variable {prog : Program} {w : World} {A : Around} {R : Result → Shared → Prop}
/-- the turns of a list comprehension over tuples, with one test that fails at each -/
theorem codeAny_compLoop_tupF {elt ct iter : PySem.Expr} {elts : List PySem.Expr} {x1} {tp : Pos} {scope : Scope} {pos : Pos} {it acc : Value} {env : Env} {s : Shared} (I : Nat → Shared → Prop)
    (turn : ∀ n s, I n s → wpAny (model prog w) A (pyNext it) (fun r s₁ => match r with
      | none => R (.ok .next) s₁
      | some v => wpAny (model prog w) A (letOwnedTupleGo (.Tuple elts x1 tp) it v) (fun _ s₁' => wpAny (model prog w) A (assign (.Tuple elts x1 tp) env v) (fun _ s₂ =>
          wpAny (model prog w) A (isTrue ct env (eval ct env)) (fun ok s₃ => ok = false ∧ ∃ m, m < n ∧ I m s₃) (notedBy (model prog w) A env fun e s' => R (.error e) s') s₂)
          (notedBy (model prog w) A env fun e s' => R (.error e) s') s₁') (notedBy (model prog w) A env fun e s' => R (.error e) s') s₁) (notedBy (model prog w) A env fun e s' => R (.error e) s') s)
    (n : Nat) (h : I n s) : codeAny (model prog w) A (.compLoop (.ListComp elt [⟨.Tuple elts x1 tp, iter, [ct], 0⟩] scope pos) 0 it acc env) R s := by
  refine codeAny_loop rfl I (fun n s hI => ?_) n h
  show wpAny _ A ((compTurn (.ListComp elt [⟨.Tuple elts x1 tp, iter, [ct], 0⟩] scope pos) 0 it acc env).onRaise (fun x => do noteFrame x env; theTreesLotGoes x)) _ _ s
  refine wpAny_noted ?_
  rw [compTurn_list]
  refine wpAny_bind (wpAny_standAt (wpAny_bind (wpAny_mono (turn n s hI) (fun r s₁ h₁ => ?_) fun _ _ h' => h')))
  cases r with
  | none => exact wpAny_pure h₁
  | some v =>
    refine wpAny_bind (wpAny_mono h₁ (fun _ s₁' h₁' => ?_) fun _ _ h' => h')
    refine wpAny_bind (wpAny_mono h₁' (fun _ s₂ h₂ => wpAny_bind (wpAny_mono (wpAny_tests_one h₂) (fun ok s₃ h₃ => ?_) fun _ _ h' => h')) fun _ _ h' => h')
    obtain ⟨rfl, h₃⟩ := h₃
    exact wpAny_pure ⟨rfl, h₃⟩
theorem letValIt {E : Value → Shared → Prop} {s : Shared} {elts : List PySem.Expr} {k} {pos : Pos} {I d T : Addr} {i n ep : Nat} {Q : Unit → Shared → Prop}
    (hi : s.heap.IsValIter I d i n ep) (hQ : Q () s) : wpAny (model prog w) A (letOwnedTupleGo (.Tuple elts k pos) (.ref I) (.ref T)) Q E s := by
  obtain ⟨o, ho, hc, hd⟩ := hi
  unfold letOwnedTupleGo
  refine wpAny_bind (wpAny_load ho ?_)
  show wpAny _ A (match o.cls, o.data with | _, _ => _) Q E s
  rw [hc, hd]
  show wpAny _ A (if (["enumerate", "zip", "dict_itemiterator", "dict_reverseitemiterator", "odict_iterator", "itertools.zip_longest", "itertools.pairwise"].contains "dict_valueiterator" &&
      (#[.ref d, .int i 0, .int n 0, .int ep 0] : Array Value)[0]? == some (rawInt T)) = true then _ else _) Q E s
  rw [if_neg (by
    intro h
    rw [show (["enumerate", "zip", "dict_itemiterator", "dict_reverseitemiterator", "odict_iterator", "itertools.zip_longest", "itertools.pairwise"].contains "dict_valueiterator") = false from by decide, Bool.false_and] at h
    cases h)]
  exact wpAny_pure hQ
end
theorem valsAre_at {bks : Led} {rs vs} (x : ValsAre bks rs vs) : ∀ {i : Nat} {v : Value}, vs[i]? = some v → ∃ r ∈ rs, ∃ a t t', v = .ref a ∧ (a, pairO (.str (rowS (modeOf r.2)) t) (.int (r.2 / 28672) t')) ∈ bks := by
  induction x with
  | nil => intro i v h; cases h
  | @snoc rs vs r a t t' _ hm ih =>
    intro i v h
    rw [List.getElem?_append] at h
    split at h
    · obtain ⟨r', hr, q⟩ := ih h
      exact ⟨r', List.mem_append_left _ hr, q⟩
    · refine ⟨r, List.mem_append_right _ (.head _), a, t, t', ?_, hm⟩
      have := List.mem_of_getElem? h
      exact List.mem_singleton.mp this
noncomputable abbrev viewO (D : Addr) : Obj := { cls := .type "dict_values", data := .fields #[.ref D] }
section
variable {w : World} {A : Around} {E : Value → Shared → Prop} {s : Shared} {h₀ : Heap} {L : Addr} {m : Str → Option Value} {env : Env}
open LCg in
/-- no row of the book passes the test -/
theorem vals_none {elt ct iter : PySem.Expr} {p1 p2 tp : Pos} {x1} {scope : Scope} {cl : List (Str × Addr)} {pos : Pos} {D : Addr} {oD : Obj} {kvs : List (Str × Value)} {rs : List (List Nat × Int)} {core bks : Led} {Q : Value → Shared → Prop}
    (hclos : closureFor scope env = pure cl) (hcell : ∀ y ∈ scope.names, y.2 ≠ .cell) (hkind : scope.kind = .function)
    (hnames : ∀ y ∈ scope.names, y.2 = .local → scope.names.lookup y.1 = some .local) (hx1 : scope.names.lookup ("row" : Str) = some .local) (hx2 : scope.names.lookup ("size" : Str) = some .local) (hh : A.handled = none)
    (hD : Obj.IsDictOf (strKind PR w) oD kvs) (hV : ValsAre bks rs (kvs.map (·.2)))
    (htest : ∀ r t' C oC m₂ h tk X (R1 : Bool → Shared → Prop) (E' : Value → Shared → Prop), r ∈ rs → NsObj oC m₂ → m₂ "size" = some (.int (r.2 / 28672) t') → Fr h₀ L h m → News h₀ L h ((C, oC) :: (core ++ X)) → (∀ p ∈ core, p.1 ≠ C) →
      (∀ h' tk', Fr h₀ L h' m → News h₀ L h' ((C, oC) :: (core ++ X)) → R1 false { s with heap := h', toks := tk' }) → wpAny (model PR w) A (isTrue ct (compEnvC scope cl C env) (eval ct (compEnvC scope cl C env))) R1 E' { s with heap := h, toks := tk })
    (h : wpAny (model PR w) A (eval iter env) (fun xv s₁ => ∃ V h tk, xv = .ref V ∧ s₁ = { s with heap := h, toks := tk } ∧ Fr h₀ L h m ∧ News h₀ L h ((V, viewO D) :: (D, oD) :: (bks ++ core))) E s)
    (hQ : ∀ Z h tk, Fr h₀ L h m → News h₀ L h ((Z, lst []) :: (D, oD) :: (bks ++ core)) → Q (.ref Z) { s with heap := h, toks := tk })
    (hs : ∀ x, foldedSetIterable iter env x = pure x := by intro _; rfl) :
    wpAny (model PR w) A (eval (.ListComp elt [⟨.Tuple [.Name "row" p1, .Name "size" p2] x1 tp, iter, [ct], 0⟩] scope pos) env) Q E s := by
  rw [eval_ListComp]
  refine wpAny_comprehension_free (use := none) rfl hs hclos hkind hnames (wpAny_mono h (fun xv s₁ h₁ => ?_) fun _ _ e => e)
  obtain ⟨V, h1, tk1, rfl, rfl, F1, N1⟩ := h₁
  obtain ⟨es, ep, hDo⟩ := hD
  have dictAt : ∀ {hp : Heap} {l : Led}, News h₀ L hp l → (D, oD) ∈ l → hp.DictAt (strKind PR w) D kvs ep := fun N hq => ⟨oD, es, (N _ hq).1, hDo⟩
  refine wpAny_pyIter_values ⟨_, (N1 _ (.head _)).1, rfl, rfl⟩ (dictAt N1 (.tail _ (.head _))) ?_
  dsimp only
  have N2 := N1.push F1 { cls := .type "dict_valueiterator", data := .fields #[.ref D, .int 0 0, .int kvs.length 0, .int ep 0] }
  have F2 := F1.push { cls := .type "dict_valueiterator", data := .fields #[.ref D, .int 0 0, .int kvs.length 0, .int ep 0] }
  replace N2 := news_sub N2 (l' := (h1.objs.size, { cls := .type "dict_valueiterator", data := .fields #[.ref D, .int 0 0, .int kvs.length 0, .int ep 0] }) :: (D, oD) :: (bks ++ core)) fun p hp => (List.mem_cons.mp hp).elim (fun e => e ▸ .head _) fun q => .tail _ (.tail _ q)
  have lI : ∀ p ∈ (D, oD) :: (bks ++ core), p.1 ≠ h1.objs.size := fun p hp => Nat.ne_of_lt (Heap.lt_size (N1 p (.tail _ hp)).1)
  generalize hI : h1.objs.size = I at *
  generalize hh2 : h1.push { cls := .type "dict_valueiterator", data := .fields #[.ref D, .int 0 0, .int kvs.length 0, .int ep 0] } = h2 at *
  refine wpAny_newObj_type ?_
  dsimp only
  have N3 := N2.push F2 { cls := .type "list", dict := none, data := .seq ([] : List Value).toArray }
  have F3 := F2.push { cls := .type "list", dict := none, data := .seq ([] : List Value).toArray }
  have lZ : ∀ p ∈ (I, ({ cls := .type "dict_valueiterator", data := .fields #[.ref D, .int 0 0, .int kvs.length 0, .int ep 0] } : Obj)) :: (D, oD) :: (bks ++ core), p.1 ≠ h2.objs.size := fun p hp => Nat.ne_of_lt (Heap.lt_size (N2 p hp).1)
  generalize hZ : h2.objs.size = Z at *
  generalize hh3 : h2.push { cls := .type "list", dict := none, data := .seq ([] : List Value).toArray } = h3 at *
  refine wpAny_newFunctionEnv hcell (by intro y hy; simp at hy) (fun h4 hns4 hsb4 => ?_) hkind
  have up4 : ∀ b o, h3.get? b = some o → h4.get? b = some o := fun b o e => hsb4.extBut b o (Nat.ne_of_lt (Heap.lt_size e)) (Heap.get?_push_of_some _ e)
  have F4 := F3.keeps up4
  have lC : ∀ p ∈ (Z, lst []) :: (I, ({ cls := .type "dict_valueiterator", data := .fields #[.ref D, .int 0 0, .int kvs.length 0, .int ep 0] } : Obj)) :: (D, oD) :: (bks ++ core), p.1 ≠ h3.objs.size := fun p hp => Nat.ne_of_lt (Heap.lt_size (N3 p hp).1)
  have hC0 : h₀.get? h3.objs.size = none := next_is_new F3
  have hCL : h3.objs.size ≠ L := Ne.symm (Nat.ne_of_lt F3.ns.lt)
  have N4 := N3.grown up4
  dsimp only at hns4 ⊢
  obtain ⟨oC, heC, hoC⟩ := ns_obj hns4
  generalize hC : h3.objs.size = C at *
  have hZI : I ≠ Z := lZ _ (.head _)
  have hCI : I ≠ C := lC _ (.tail _ (.head _))
  have hCZ : Z ≠ C := lC _ (.head _)
  have cC : ∀ p ∈ (D, oD) :: (bks ++ core), p.1 ≠ C := fun p hp => lC p (.tail _ (.tail _ hp))
  have loop : ∀ h tk, h = h4 → codeAny (model PR w) A (.compLoop (.ListComp elt [⟨.Tuple [.Name "row" p1, .Name "size" p2] x1 tp, iter, [ct], 0⟩] scope pos) 0 (.ref I) (.ref Z) (compEnvC scope cl C env)) (compPost (model PR w) A E none Q (.ref Z) C) { s with heap := h, toks := tk } := by
    rintro h tk rfl
    refine codeAny_compLoop_tupF (fun k s' => ∀ P : Prop, (∀ (i : Nat) h tk oI oC m', k = kvs.length + 1 - i → i ≤ kvs.length → s' = { s with heap := h, toks := tk } → Fr h₀ L h m → News h₀ L h ((I, oI) :: (C, oC) :: (Z, lst []) :: (D, oD) :: (bks ++ core)) → NsObj oC m' →
      oI.cls = .type "dict_valueiterator" → oI.data = .fields #[.ref D, .int i 0, .int kvs.length 0, .int ep 0] → P) → P) ?_ (kvs.length + 1)
      (fun _ k => k 0 h tk { cls := .type "dict_valueiterator", data := .fields #[.ref D, .int 0 0, .int kvs.length 0, .int ep 0] } oC _ rfl (Nat.zero_le _) rfl F4 (fun p hp => ?_) hoC rfl rfl)
    rotate_left
    · rcases List.mem_cons.mp hp with rfl | hp
      · exact N4 _ (.tail _ (.head _))
      rcases List.mem_cons.mp hp with rfl | hp
      · exact ⟨heC, hCL, hC0⟩
      rcases List.mem_cons.mp hp with rfl | hp
      · exact N4 _ (.head _)
      · exact N4 _ (.tail _ (.tail _ hp))
    intro k s' hJ
    refine hJ _ ?_
    clear hJ
    rintro i h tk oI oC m' rfl hi rfl F N hC' hIc hId
    have oI1 : ∀ p ∈ (C, oC) :: (Z, lst []) :: (D, oD) :: (bks ++ core), p.1 ≠ I := by
      intro p hp
      rcases List.mem_cons.mp hp with rfl | hp
      · exact Ne.symm hCI
      rcases List.mem_cons.mp hp with rfl | hp
      · exact Ne.symm hZI
      · exact lI p hp
    have hmD : (D, oD) ∈ (I, oI) :: (C, oC) :: (Z, lst []) :: (D, oD) :: (bks ++ core) := .tail _ (.tail _ (.tail _ (.head _)))
    by_cases hlt : i < kvs.length
    · obtain ⟨⟨k0, v0⟩, hx⟩ : ∃ p, kvs[i]? = some p := ⟨kvs[i], List.getElem?_eq_getElem hlt⟩
      refine wpAny_pyNext_values_item ⟨oI, (N _ (.head _)).1, hIc, hId⟩ (dictAt N hmD) hx fun h5 hit5 hs5 => ?_
      obtain ⟨r, hr, a, t, t', hv, hmt⟩ := valsAre_at hV (i := i) (v := v0) (by rw [List.getElem?_map, hx]; rfl)
      subst hv
      dsimp only
      obtain ⟨oI', hoI', hc', hd'⟩ := hit5
      have N5 := news_chg N oI1 (fun b o hb e => hs5.extBut b o hb e) hoI'
      have F5 := fr_chg F N (fun b o hb e => hs5.extBut b o hb e)
      refine letValIt ⟨oI', hoI', hc', hd'⟩ ?_
      have hmt' : (a, pairO (.str (rowS (modeOf r.2)) t) (.int (r.2 / 28672) t')) ∈ (I, oI') :: (C, oC) :: (Z, lst []) :: (D, oD) :: (bks ++ core) := .tail _ (.tail _ (.tail _ (.tail _ (List.mem_append_left _ hmt))))
      refine assign_Tuple_tuple hh ⟨_, (N5 _ hmt').1, rfl, _, rfl⟩ rfl rfl fun h6 he6 => ?_
      have up6 : ∀ b o, h5.get? b = some o → h6.get? b = some o := fun b o e => he6 b o (Nat.ne_of_lt (Heap.lt_size e)) e
      refine assignInOrder_cons (wpAny_assign_Name (wpAny_storeName_local (lookup_relabel_local hx1) ((hC'.ns (N5 _ (.tail _ (.head _))).1).at' fun o e => up6 _ o e) (fun h7 hn7 hs7 => ?_) (by simp [compEnvC, relabel, hkind])))
      refine assignInOrder_cons (wpAny_assign_Name (wpAny_storeName_local (lookup_relabel_local hx2) hn7 (fun h8 hn8 hs8 => ?_) (by simp [compEnvC, relabel, hkind])))
      refine assignInOrder_nil ?_
      have up9 : ∀ b o, b ≠ C → h5.get? b = some o → h8.get? b = some o := fun b o hb e => hs8.extBut b o hb (hs7.extBut b o hb (up6 b o e))
      obtain ⟨oC', heC', hoC'⟩ := ns_obj hn8
      have N5' : News h₀ L h5 ((C, oC) :: (core ++ ((I, oI') :: (Z, lst []) :: (D, oD) :: bks))) := news_pick [[(I, oI')], [(C, oC)], [(Z, lst [])], [(D, oD)], bks, core] [1, 5, 0, 2, 3, 4] N5
      have oC1 : ∀ p ∈ core ++ ((I, oI') :: (Z, lst []) :: (D, oD) :: bks), p.1 ≠ C := by
        intro p hp
        rcases List.mem_append.mp hp with hp | hp
        · exact cC p (.tail _ (List.mem_append_right _ hp))
        rcases List.mem_cons.mp hp with rfl | hp
        · exact hCI
        rcases List.mem_cons.mp hp with rfl | hp
        · exact hCZ
        rcases List.mem_cons.mp hp with rfl | hp
        · exact cC _ (.head _)
        · exact cC p (.tail _ (List.mem_append_left _ hp))
      have N9 := news_chg N5' oC1 up9 heC'
      have F9 := fr_chg F5 N5' up9
      refine htest r t' C oC' _ h8 _ ((I, oI') :: (Z, lst []) :: (D, oD) :: bks) _ _ hr hoC' (if_pos rfl) F9 N9 (fun p hp => cC p (.tail _ (List.mem_append_right _ hp))) fun h10 tk10 F10 N10 => ?_
      exact ⟨rfl, kvs.length + 1 - (i + 1), Nat.sub_lt_sub_left (Nat.lt_succ_of_lt hlt) (Nat.lt_succ_self i), fun _ k => k (i + 1) h10 _ oI' oC' _ rfl hlt rfl F10 (news_pick [[(C, oC')], core, [(I, oI')], [(Z, lst [])], [(D, oD)], bks] [2, 0, 3, 4, 5, 1] N10) hoC' hc' hd'⟩
    · obtain rfl : i = kvs.length := Nat.le_antisymm hi (Nat.not_lt.mp hlt)
      refine wpAny_pyNext_values_end hh ⟨oI, (N _ (.head _)).1, hIc, hId⟩ (dictAt N hmD) (by simp) fun h5 he5 => ?_
      dsimp only
      have N5 : News h₀ L h5 ((C, oC) :: (Z, lst []) :: (D, oD) :: (bks ++ core)) := fun p hp => ⟨he5 _ _ (oI1 p hp) (N p (.tail _ hp)).1, (N p (.tail _ hp)).2⟩
      have F5 := fr_chg F N he5
      refine ⟨m', hC'.ns (N5 _ (.head _)).1, fun h6 hs6 => ?_⟩
      have oC1 : ∀ p ∈ (Z, lst []) :: (D, oD) :: (bks ++ core), p.1 ≠ C := by
        intro p hp
        rcases List.mem_cons.mp hp with rfl | hp
        · exact hCZ
        · exact cC p hp
      exact hQ Z h6 tk (fr_chg F5 N5 fun b o hb e => hs6.extBut b o hb e) (fun p hp => ⟨hs6.extBut _ _ (oC1 p hp) (N5 p (.tail _ hp)).1, (N5 p (.tail _ hp)).2⟩)
  exact codeAny_compStart_list (loop _ _ rfl) (wpAny_pyIter_valiter ⟨_, (N4 _ (.tail _ (.head _))).1, rfl, rfl⟩ (loop _ _ rfl))
end

/-- the parts of law, read off the text's term -/
noncomputable def lawP : Subtype fun x : Arguments × List Stmt × Scope => (PySem.Challenge.pw_op0115_01.main.body[40]?).bind fnParts = some x := ⟨_, rfl⟩
noncomputable abbrev lawCl (L : Addr) : List (Str × Addr) := cellsFrom (L + 1) lawP.val.2.2.names []
section
variable {prog : Program} {w : World} {A : Around} {s : Shared} {h₀ : Heap} {L : Addr} {m : Str → Option Value} {env : Env}
open LCg in
/-- a comprehension without test by an invariant -/
theorem compU_ind {elt : PySem.Expr} {x : Str} {scope : Scope} {cl : List (Str × Addr)} {S : Led → Prop} {P : Nat → Value → Prop} {Fin : List Value → Led → Prop} (n : Nat) (Inv : Nat → List Value → Led → Prop) (hfin : ∀ ys news, Inv n ys news → Fin ys news)
    (step : ∀ i ys news, i < n → Inv i ys news → ∀ v I oI C oC D m₂ h tk (E' : Value → Shared → Prop), P i v → NsObj oC m₂ → m₂ x = some v → Fr h₀ L h m → News h₀ L h ((I, oI) :: (C, oC) :: (D, lst ys) :: news) → Off3 I C D news → ((@Ne Nat I C) ∧ (@Ne Nat I D) ∧ (@Ne Nat C D)) →
      ∀ R1 : Value → Shared → Prop, (∀ y s', CompEnd h₀ L m { s with heap := h, toks := tk } I oI C oC D (lst ys) S (fun y news' => Inv (i + 1) (ys ++ [y]) news') y s' → R1 y s') →
      wpAny (model prog w) A (eval elt (compEnvC scope cl C env)) R1 E' { s with heap := h, toks := tk }) :
    ∀ (k i : Nat) (ys : List Value) (news : Led), i + k = n → Inv i ys news → CompRest prog w A h₀ L m env elt x scope cl s S P Fin k i ys news := by
  intro k
  induction k with
  | zero => intro i ys news e hi; obtain rfl : i = n := e; exact hfin _ _ hi
  | succ k ih =>
    intro i ys news e hi
    refine CompRest.succ fun v I oI C oC D m₂ h tk E' a1 a2 a3 a4 a5 a6 a7 => ?_
    exact step i ys news (by omega) hi v I oI C oC D m₂ h tk E' a1 a2 a3 a4 a5 a6 a7 _ fun y s'' ⟨h', tk, nw, e1, e2, e3, e4, e5, e6⟩ => ⟨h', tk, nw, e1, e2, e3, e4, e5, ih _ _ _ (by omega) e6⟩
end
section
local macro_rules | `(tactic| walk_at "eval IfExp") => `(tactic| walk_at "stop")
local macro_rules | `(tactic| walk_at "eval BoolOp") => `(tactic| walk_at "stop")
local macro_rules | `(tactic| walk_at "eval ListComp") => `(tactic| walk_at "stop")
local macro_rules | `(tactic| walk_at "CompSrc") => `(tactic| walk_at "stop")
local macro_rules | `(tactic| walk_at "subscriptTail") => `(tactic| walk_at "stop")
local macro_rules | `(tactic| walk_at "eval DictComp") => `(tactic| walk_at "stop")
local macro_rules | `(tactic| walk_at "binaryOp Mult int int") => `(tactic| walk_at "stop")
local macro_rules | `(tactic| walk_at "binaryOp Pow int int") => `(tactic| walk_at "stop")
local macro_rules | `(tactic| walk_at "binaryOp FloorDiv int int") => `(tactic| walk_at "stop")
local macro_rules | `(tactic| walk_at "binaryOp Mod int int") => `(tactic| walk_at "stop")
local macro_rules | `(tactic| walk_at "call builtin:len") => `(tactic| (k_here; (rename ValsAre _ _ _ => hV0); refine stop ?_))
local macro_rules | `(tactic| walk_at "compareOp NotEq ref ref") => `(tactic| walk_at "stop")
local macro_rules | `(tactic| walk_at "exec If") => `(tactic| walk_at "stop")
theorem mod_in {prog : Program} {w : World} {A : Around} {E : Value → Shared → Prop} {s : Shared} {a n : Int} {t u : Tok} {Q : Value → Shared → Prop} (hb : 0 < n) (h : ∀ v, 0 ≤ v → v < n → Q (.int v s.toks) { s with toks := s.toks + 1 }) : wpAny (model prog w) A (binaryOp .Mod (.int a t) (.int n u)) Q E s :=
  mod_to (Int.ne_of_gt hb) rfl (h _ (by rw [Int.fmod_eq_emod_of_nonneg _ (Int.le_of_lt hb)]; exact Int.emod_nonneg _ (Int.ne_of_gt hb)) (by rw [Int.fmod_eq_emod_of_nonneg _ (Int.le_of_lt hb)]; exact Int.emod_lt_of_pos _ hb))
theorem news_d2 {h₀ h : Heap} {L : Addr} {a b : Addr × Obj} {l : Led} (N : News h₀ L h (a :: b :: l)) : News h₀ L h (a :: l) := news_sub N fun p hp => (List.mem_cons.mp hp).elim (fun e => e ▸ .head _) fun hp => .tail _ (.tail _ hp)
theorem ne_empty {prog : Program} {w : World} {A : Around} {E : Value → Shared → Prop} {s : Shared} {a b : Addr} {Q : Value → Shared → Prop} (ha : s.heap.IsList a #[]) (hb : s.heap.IsList b #[]) (hu : A.units < cLine) (h : Q (.bool false) s) : wpAny (model prog w) A (compareOp .NotEq (.ref a) (.ref b)) Q E s :=
  SeqAt.RcNeAt.lists (e := fun _ => true) ha hb rfl hu (fun j h1 _ => absurd h1 (Nat.not_lt_zero _)) prog w E Q h
theorem dvals {w : World} {A : Around} {E : Value → Shared → Prop} {s : Shared} {h₀ : Heap} {L D : Addr} {m : Str → Option Value} {l : Led} {oD : Obj} {kvs : List (Str × Value)} {Q : Value → Shared → Prop} (F : Fr h₀ L s.heap m) (N : News h₀ L s.heap l) (hm : (D, oD) ∈ l)
    (hD : Obj.IsDictOf (strKind PR w) oD kvs) (lo : (D == sysModules) = false) (h : ∀ V h', Fr h₀ L h' m → News h₀ L h' ((V, viewO D) :: l) → Q (.ref V) { s with heap := h' }) : wpAny (model PR w) A (call (.builtin "dict.values") [.ref D]) Q E s :=
  have hd := Heap.dictOf_iff.mpr ⟨oD, (N _ hm).1, hD⟩
  call_meetsIn PySem.F.slot_dict_values hd.typeIs PySem.F.entry_dict_values (PySem.F.args_dict_values_1 _) (meets_dict_values (strKind PR w) D lo) ⟨⟨kvs, hd⟩, h _ _ (F.push _) (News.push F N _)⟩
theorem dlen {w : World} {A : Around} {E : Value → Shared → Prop} {s : Shared} {h₀ : Heap} {L D : Addr} {l : Led} {oD : Obj} {kvs : List (Str × Value)} {k : Nat} {Q : Value → Shared → Prop} (N : News h₀ L s.heap l) (hm : (D, oD) ∈ l)
    (hD : Obj.IsDictOf (strKind PR w) oD kvs) (lo : (D == sysModules) = false) (hk : kvs.length = k) (hs : k ≤ 16777216) (h : Q (.int k (s.toks + 1)) { s with toks := s.toks + 1 + 1 }) : wpAny (model PR w) A (call (.builtin "len") [.ref D]) Q E s := by
  subst hk
  exact call_len_dict lo (Heap.dictOf_iff.mpr ⟨oD, (N _ hm).1, hD⟩) (by omega) h
theorem letIn {α : Type} {P : α → Prop} (v : α) (h : let x := v; P x) : P v := h
theorem lw_d {dp D : Nat} (h : dp + 400 ≤ D) {d : Nat} (hd : d < 400 := by decide) : dp + d < D := Nat.lt_of_lt_of_le (Nat.add_lt_add_left hd dp) h
theorem lw_u {un D : Nat} (h : un + 2000 ≤ D + 2) {d : Nat} (hd : d < 1998 := by decide) : un + d < D := by omega
theorem lw_dis {L : Addr} {oA oB oC oD : Obj} (h : (37 : Nat) < L) (h' : (30 : Nat) < L) : ∀ p ∈ TT (tabObj #[]) (tabObj #[]) (tabObj #[]) (tabObj #[]) 30 37, ∀ q ∈ [(L + 1 + 1 + 1 + 1, oA), (L + 1 + 1 + 1, oB), (L + 1 + 1, oC), (L + 1, oD)], p.1 ≠ q.1 := by
  intro p hp q hq
  have h1 : p.1 < L := by
    simp only [TT, List.mem_cons, List.not_mem_nil, or_false] at hp
    rcases hp with rfl | rfl | rfl | rfl <;> assumption
  have h2 : L < q.1 := by
    simp only [List.mem_cons, List.not_mem_nil, or_false] at hq
    rcases hq with rfl | rfl | rfl | rfl <;> exact Nat.lt_of_lt_of_le (Nat.lt_succ_self L) (by simp only [Nat.add_assoc]; omega)
  exact Nat.ne_of_lt (Nat.lt_trans h1 h2)
theorem lw_sub {x y z u a b : Addr × Obj} {t tz : Led} (h : ∀ p ∈ tz, p ∈ a :: b :: t) : ∀ p ∈ x :: y :: z :: u :: tz, p ∈ x :: y :: z :: u :: a :: b :: t := fun p hp => by
  rcases List.mem_cons.mp hp with rfl | hp
  · exact .head _
  rcases List.mem_cons.mp hp with rfl | hp
  · exact .tail _ (.head _)
  rcases List.mem_cons.mp hp with rfl | hp
  · exact .tail _ (.tail _ (.head _))
  rcases List.mem_cons.mp hp with rfl | hp
  · exact .tail _ (.tail _ (.tail _ (.head _)))
  · exact .tail _ (.tail _ (.tail _ (.tail _ (h p hp))))
theorem news_d3 {h₀ h : Heap} {L : Addr} {a b d e f k l : Addr × Obj} {m : Led} (N : News h₀ L h (a :: b :: d :: e :: f :: k :: l :: m)) : News h₀ L h (d :: m) := news_pick [[a], [b], [d], [e], [f], [k], [l], m] [2, 7] N
theorem law_tail {w : World} {p : Program} {loose : List Str} {mean : ExcName → Option Value} {mg mb : Str → Option Value} {dp un : Nat} {gd : Option (List Code)} {fa L : Addr} {cd : Value} {A₀ : Around} {base g : Heap} {s : Shared} {h₁ : Heap} {tk : Nat} {oT oB oS oC : Obj} {T nb first second : Int} {tT tB tS t6 t7 : Tok} {m9 : Str → Option Value} {Q0 : Flow → Shared → Prop}
    (B' : Below A₀ base [] g) (X' : (hd.heap_1 w.params).In g) (C1 : CodeHd g 41 37) (C2 : CodeHd g 34 30) (T' : Top p loose mean mg mb g) (hdp : dp + 400 ≤ recursionLimit) (hun : un + 2000 ≤ cLine + 2)
    (hL : (37 : Nat) < L) (l30 : (30 : Nat) < L) (G9 : Fr g L h₁ (ov [("width", .int (wdF first second : Nat) t6), ("number", .int nb t7)] m9))
    (N10 : News g L h₁ [(L + 1 + 1 + 1 + 1, oT), (L + 1 + 1 + 1, oB), (L + 1 + 1, oS), (L + 1, oC), (37, tabObj #[]), (30, tabObj #[])]) (dT : oT.data = .cell (some (.int T tT))) (dB : oB.data = .cell (some (.int (bdF second) tB))) (dS : oS.data = .cell (some (.int (szF second) tS)))
    (hn0 : 0 ≤ nb) (hn1 : nb < bdF second ^ 5) (hQ0 : ∀ h t, (∀ b o, g.get? b = some o → h.get? b = some o) → GrownAt 37 h → GrownAt 30 h → Q0 (.ret (.bool true)) { s with heap := h, toks := t }) :
    wpAny (model PR w) (ktrTop dp un gd "law" lawP.val.2.2 L fa cd (lawCl L) []) (execs (lawP.val.2.1.drop 8) (envX "law" lawP.val.2.2 L fa cd (lawCl L))) Q0 (fun _ _ => False) { s with heap := h₁, toks := tk } := by
  have hB0 := bd_pos second
  have hBb : intBits (bdF second) ≤ 4422 := Nat.le_trans (bd_bits second) (Nat.add_le_add_left (bits_of_sz second) 15)
  replace hL := ltN hL
  replace l30 := ltN l30
  dsimp only [lawCl, lawP, List.drop]
  refine letIn (P := fun A1 => wpAny _ A1 (execs _ _) _ _ _) (ktrTop _ _ _ _ _ _ _ _ _ _) ?_
  intro A1
  refine letIn (P := fun e1 => wpAny _ A1 (execs _ e1) _ _ _) (envX _ _ _ _ _ _) ?_
  intro e1
  k_steps
  unfold Stop
  refine joinC (fun R1 => ∀ v h tk, PathV (decide (0 ≤ T)) [] v → Fr g L h (ov [("width", .int (wdF first second : Nat) t6), ("number", .int nb t7)] m9) → News g L h [(L + 1 + 1 + 1 + 1, oT), (L + 1 + 1 + 1, oB), (L + 1 + 1, oS), (L + 1, oC), (37, tabObj #[]), (30, tabObj #[])] → R1 v { s with heap := h, toks := tk }) ?_ ?_
  · intro R1 hR1
    refine wpAny_IfExp ?_
    k_steps
    · rename (0 ≤ T) => hT0
      exact hR1 _ _ _ (by rw [decide_eq_true hT0]; exact ⟨_, rfl⟩) G9 N10
    · rename (¬ 0 ≤ T) => hT0
      exact hR1 _ _ _ (by rw [decide_eq_false hT0]; exact ⟨_, rfl⟩) G9 N10
  intro v h11 tk11 hpv F11 N11
  clear G9 N10
  k_steps
  unfold Stop
  obtain ⟨w1, w2, _⟩ := wd_facts first second
  refine useK (rest := [(L + 1 + 1 + 1 + 1, oT), (L + 1 + 1 + 1, oB), (L + 1 + 1, oS), (L + 1, oC)]) (ct_law_lines w (bdF second) (wdF first second) (decide (0 ≤ T)) hB0 (Nat.le_trans hBb (by decide)) w1 w2 (dig_ok first second) (div_ok second) 5 (Nat.le_refl _) nb [] _ _ _ v (tabObj #[]) (tabObj #[]) (tabObj #[]) (tabObj #[]) 30 37 (.inl ⟨rfl, rfl, rfl⟩) (.inl ⟨rfl, rfl, rfl⟩) (by decide) (by decide) (by decide) hpv hn0 hn1 (by decide))
    B' F11 X' C1 C2 T' (news_pick [[(L + 1 + 1 + 1 + 1, oT)], [(L + 1 + 1 + 1, oB)], [(L + 1 + 1, oS)], [(L + 1, oC)], [(37, tabObj #[])], [(30, tabObj #[])]] [5, 5, 4, 4, 0, 1, 2, 3] N11) (lw_dis hL l30) rfl (lw_d hdp) (lw_u hun) trivial ?_
  intro N0 h12 tk12 hlt F12 lst vals2 n2 tups oA ocA oB2 ocB2 cA cB hNl hrows hTT hne1 hne2 htups N12
  obtain ⟨psA, rfl⟩ : ∃ ps, oA = tabObj ps := by rcases hTT.1 with e | e <;> exact ⟨_, e.1⟩
  obtain ⟨psB, rfl⟩ : ∃ ps, oB2 = tabObj ps := by rcases hTT.2.1 with e | e <;> exact ⟨_, e.1⟩
  obtain ⟨tupz, z30, z37, zsub⟩ : ∃ t : Led, (30, tabObj psA) ∈ t ∧ (37, tabObj psB) ∈ t ∧ (∀ p ∈ tups, p ∈ t) ∧ ∀ p ∈ t, p ∈ (30, tabObj psA) :: (37, tabObj psB) :: tups := ⟨(30, tabObj psA) :: (37, tabObj psB) :: tups, .head _, .tail _ (.head _), fun _ h => .tail _ (.tail _ h), fun _ h => h⟩
  replace hrows := hrows.mono zsub.1
  rw [List.cons_append, List.append_assoc] at N12
  replace N12 := news_sub (news_pick [[(lst, listOf (List.toArray vals2) n2)], tups, [(30, tabObj psA)], [(cA, ocA)], [(37, tabObj psB)], [(cB, ocB2)], [(L + 1 + 1 + 1 + 1, oT)], [(L + 1 + 1 + 1, oB)], [(L + 1 + 1, oS)], [(L + 1, oC)]] [6, 7, 8, 0, 2, 4, 1] N12) (l' := (L + 1 + 1 + 1 + 1, oT) :: (L + 1 + 1 + 1, oB) :: (L + 1 + 1, oS) :: (lst, listOf (List.toArray vals2) n2) :: tupz) (lw_sub zsub.2)
  clear htups zsub
  generalize tupz = tups at *
  clear F11 N11 hTT hne1 hne2 hlt
  k_steps
  try unfold Stop
  rename Fr _ _ _ _ => F13
  rename News _ _ _ _ => N13
  refine cutM (l := [("lines", .ref lst), ("width", .int (wdF first second : Nat) t6), ("number", .int nb t7)]) F13 rfl fun m13 G13 => ?_
  clear F13
  have hlen2 := hrows.length
  have hlen3 : (lns (bdF second) (wdF first second) (5 + 1) nb []).length ≤ 2000 := Nat.le_trans (lns_len (bdF second) (wdF first second) 6 nb []) (bnd_le 6 (by decide))
  refine dict_rows (h₀ := g) (L := L) (m := ov [("lines", .ref lst), ("width", .int (wdF first second : Nat) t6), ("number", .int nb t7)] m13) (core := (L + 1 + 1 + 1 + 1, oT) :: (L + 1 + 1 + 1, oB) :: (L + 1 + 1, oS) :: (lst, listOf (List.toArray vals2) n2) :: tups) rfl (by with_unfolding_all rfl) (by with_unfolding_all rfl) (by with_unfolding_all rfl) (by with_unfolding_all rfl) (by decide) rfl (by decide) rfl rfl rfl rfl (.tail _ (.tail _ (.tail _ (.head _)))) (fun _ hp => .tail _ (.tail _ (.tail _ (.tail _ hp)))) hrows (by rw [sizeLine_eq]; omega) ?_ ?_ ?_ ?_
  · rintro ⟨rp, rc⟩ pv C oC m₂ h tk X R1 E' hr hpv hC hx F N hne hR1
    simp only [List.cons_append] at N hR1
    obtain ⟨i, q, hq⟩ := lns_under _ _ _ _ hr
    obtain ⟨h10, hl6⟩ := lns_path (5 + 1) nb [] (by decide) (fun _ h => nomatch h) _ hr
    obtain rfl : rp = i :: q := hq
    by_cases hT0 : 0 ≤ T
    · rw [decide_eq_true hT0] at hpv
      obtain ⟨tp, rfl⟩ := hpv
      refine wpAny_IfExp ?_
      k_steps
      all_goals first | exact hR1 _ _ _ F N | (exfalso; omega)
    · rw [decide_eq_false hT0] at hpv
      obtain ⟨tp, rfl⟩ := hpv
      refine wpAny_IfExp ?_
      k_steps
      all_goals try unfold Stop
      all_goals try (exfalso; omega)
      refine dec_path (pthN_lt h10) (by rw [pthN_len]; have : (i :: q).length ≤ 0 + (5 + 1) := hl6; omega) fun t2 k2 => ?_
      k_steps
      rename Fr _ _ _ _ => F9
      rename News _ _ _ _ => N9
      exact hR1 _ _ _ F9 N9
  · intro row t size t' C oC m₂ h tk X R1 E' hC hx1 hx2 F N hR1
    k_steps
    rename Fr _ _ _ _ => F9
    rename News _ _ _ _ => N9
    rename AllLt _ _ => hlt9
    refine hR1 _ _ _ F9 N9 fun p hp => ?_
    rcases List.mem_cons.mp hp with rfl | hp
    · exact Nat.ne_of_lt (by assumption)
    · exact Nat.ne_of_lt (allLt_mem hlt9 p hp)
  · k_steps
    all_goals first | exact G13 | exact N13 | exact ⟨_, _, rfl, rfl, G13, N13⟩
  · intro D2 oD bks kvs h14 tk14 F14 N14 hDo hB hLD
    obtain ⟨fk, fit, hvals⟩ := bkAre_fit hB (lns_nodup _ _ _)
    have hkl : kvs.length = vals2.length := by have := congrArg List.length fk; rw [List.length_map, List.length_map] at this; rw [this, hlen2]
    have hsys : (D2 == sysModules) = false := beq_eq_false_iff_ne.mpr fun q => by rw [q] at hLD; exact absurd (Nat.lt_trans hL hLD) (by decide)
    replace N14 : News g L h14 ((D2, oD) :: (L + 1 + 1 + 1 + 1, oT) :: (L + 1 + 1 + 1, oB) :: (L + 1 + 1, oS) :: (lst, listOf (List.toArray vals2) n2) :: (bks ++ tups)) := news_pick [[(D2, oD)], bks, [(L + 1 + 1 + 1 + 1, oT)], [(L + 1 + 1 + 1, oB)], [(L + 1 + 1, oS)], [(lst, listOf (List.toArray vals2) n2)], tups] [0, 2, 3, 4, 5, 1, 6] N14
    clear G13 N13
    k_steps
    unfold Stop
    refine wpAny_If ?_
    k_steps
    unfold Stop
    rename ValsAre _ _ _ => hvals
    have hv2 : vals2.length ≤ 16777216 := Nat.le_trans (Nat.le_of_eq hlen2) (Nat.le_trans hlen3 (by decide))
    refine dlen N14 (.head _) hDo hsys hkl hv2 ?_
    k_steps
    unfold Stop
    refine len_to N14 (k := vals2.length) (by k_mem) rfl hv2 ?_
    k_steps
    · exact absurd rfl (by assumption)
    unfold Stop
    rename ValsAre _ _ _ => hvals
    replace N14 : News g L h14 ((D2, oD) :: (bks ++ ((L + 1 + 1 + 1 + 1, oT) :: (L + 1 + 1 + 1, oB) :: (L + 1 + 1, oS) :: (lst, listOf (List.toArray vals2) n2) :: tups))) := news_pick [[(D2, oD)], [(L + 1 + 1 + 1 + 1, oT)], [(L + 1 + 1 + 1, oB)], [(L + 1 + 1, oS)], [(lst, listOf (List.toArray vals2) n2)], bks, tups] [0, 5, 1, 2, 3, 4, 6] N14
    refine vals_none (h₀ := g) (L := L) (D := D2) (m := fun x => if x = ("book" : Str) then some (.ref D2) else ov [("lines", .ref lst), ("width", .int (wdF first second : Nat) t6), ("number", .int nb t7)] m13 x) (core := (L + 1 + 1 + 1 + 1, oT) :: (L + 1 + 1 + 1, oB) :: (L + 1 + 1, oS) :: (lst, listOf (List.toArray vals2) n2) :: tups) (by with_unfolding_all rfl) (by decide) rfl (by decide) rfl rfl rfl hDo hvals ?_ ?_ ?_
    · intro r t' C oC m₂ h tk X R1 E' hr hC hx F N hne hR1
      simp only [List.cons_append] at N hR1
      obtain ⟨rc0, rc1⟩ := lns_code hB0 _ _ _ _ hr
      k_steps
      all_goals first | exact hR1 _ _ F N | (exfalso; unfold bdF at rc1; omega)
    · k_steps
      all_goals assumption
    · intro Z h tk F9 N9
      replace N9 : News g L h ((Z, LCg.lst []) :: (D2, oD) :: (L + 1 + 1 + 1 + 1, oT) :: (L + 1 + 1 + 1, oB) :: (L + 1 + 1, oS) :: (lst, listOf (List.toArray vals2) n2) :: (bks ++ tups)) := news_pick [[(Z, LCg.lst [])], [(D2, oD)], bks, [(L + 1 + 1 + 1 + 1, oT)], [(L + 1 + 1 + 1, oB)], [(L + 1 + 1, oS)], [(lst, listOf (List.toArray vals2) n2)], tups] [0, 1, 3, 4, 5, 6, 2, 7] N9
      k_steps
      unfold Stop
      rename Fr _ _ _ _ => F10
      rename News _ _ _ _ => N10
      refine ne_empty ⟨_, (N10 _ (.tail _ (.head _))).1, rfl, _, rfl⟩ ⟨_, (N10 _ (.head _)).1, rfl, _, rfl⟩ (lw_u (d := 0) hun) ?_
      k_steps
      unfold Stop
      rename Fr _ _ _ _ => F11
      rename News _ _ _ _ => N11
      have hbk := bookAt_of (news_d3 N11) hDo fit hsys
      refine useI (ct_law_number w D2 (fun ps => (lns (bdF second) (wdF first second) (5 + 1) nb []).lookup ps) (bdF second) (wdF first second) 5 hB0 w1 w2 (Nat.le_refl _) (Nat.le_trans hBb (by decide)) (dig_ok first second) 6 nb [] _ _ _ hn0 hn1 (bk_of hB0 w1 5 nb [] (Nat.le_refl _) hn0 hn1 fun q _ => rfl) (by decide))
        B' F11 X' C1 C2 T' N11 rfl (lw_d hdp) (lw_u hun) hbk ?_
      intro t h15 tk15 F13 N13
      k_steps
      rw [beq_self_eq_true]
      exact hQ0 _ _ F13.keep (GrownAt.of (ps := psB) N13 (by simp [z37])) (GrownAt.of (ps := psA) N13 (by simp [z30]))
theorem lw0 (x : Int) : 0 ≤ x % 5 ∧ x % 5 < 5 := ⟨Int.emod_nonneg x (by decide), Int.emod_lt_of_pos x (by decide)⟩
theorem lw1 (x : Int) : intBits (x % 5) ≤ 64 := bits_of_lt (n := 3) (lw0 x).1 (Int.lt_trans (lw0 x).2 (by decide)) (by decide)
theorem lw2 (x : Int) : 0 ≤ x % 5 * 1100 := Int.mul_nonneg (lw0 x).1 (by decide)
theorem lw9 (x : Int) : (x % 5 * 1100).toNat ≤ 5500 := Int.toNat_le.mpr (Int.mul_le_mul_of_nonneg_right (Int.le_of_lt (lw0 x).2) (by decide : (0 : Int) ≤ 1100))
theorem lw3 (x : Int) : 2 * (x % 5 * 1100).toNat ≤ 134217728 := Nat.le_trans (Nat.mul_le_mul_left 2 (lw9 x)) (by decide)
theorem lw4 (x : Int) : intBits (5 + x / 5 % 1000) ≤ 64 := bits_of_lt (n := 10) (Int.add_nonneg (by decide) (Int.emod_nonneg _ (by decide))) (Int.lt_trans (Int.add_lt_add_left (Int.emod_lt_of_pos _ (by decide)) 5) (by decide)) (by decide)
theorem lw5 (x : Int) : intBits ((2 : Int) ^ (x % 5 * 1100).toNat) ≤ 5501 := Nat.le_trans (bits_pow2 _) (Nat.succ_le_succ (lw9 x))
theorem lw6 (x : Int) : intBits (9 + x % 60) ≤ 64 := bits_of_lt (n := 7) (Int.add_nonneg (by decide) (Int.emod_nonneg _ (by decide))) (Int.lt_trans (Int.add_lt_add_left (Int.emod_lt_of_pos _ (by decide)) 9) (by decide)) (by decide)
theorem lw7 (x : Int) : intBits (1 + ((intBits (szF x) / 15 : Nat) : Int)) ≤ 64 := by
  have := bits_of_sz x
  exact intBits_le_64 (by omega) (by omega)
theorem lw8 (x y : Int) : (9 + x % 60) * (1 + ((intBits (szF y) / 15 : Nat) : Int)) = ((wdF x y : Nat) : Int) := by
  unfold wdF; rw [Int.natCast_mul, Int.natCast_add, Int.natCast_add, Int.toNat_of_nonneg (Int.emod_nonneg x (by decide))]; rfl
theorem law_core {w : World} {p : Program} {loose : List Str} {mean : ExcName → Option Value} {mg mb : Str → Option Value} {dp un : Nat} {gd : Option (List Code)} {fa L : Addr} {cd : Value} {A₀ : Around} {base g : Heap} {s : Shared} {h₁ : Heap} {tk : Nat} {scr : Addr} {vs : List Value} {ns : List Int} {o1 o2 o3 o4 : Obj} {Q0 : Flow → Shared → Prop}
    (B' : Below A₀ base [] g) (X' : (hd.heap_1 w.params).In g) (C1 : CodeHd g 41 37) (C2 : CodeHd g 34 30) (T' : Top p loose mean mg mb g) (hdp : dp + 400 ≤ recursionLimit) (hun : un + 2000 ≤ cLine + 2)
    (hScr : g.IsList scr vs.toArray) (hI : IntsAre vs ns) (hlen : ns.length ≤ 63) (hbit : ∀ n ∈ ns, intBits n ≤ 1048576) (d1 : o1.data = .cell none) (d2 : o2.data = .cell none) (d3 : o3.data = .cell none) (d4 : o4.data = .cell none)
    (F : Fr g L h₁ (fun y => List.lookup y [("script", .ref scr)])) (N : News g L h₁ [(L + 1 + 1 + 1 + 1, o1), (L + 1 + 1 + 1, o2), (L + 1 + 1, o3), (L + 1, o4), (37, tabObj #[]), (30, tabObj #[])]) (hL : 37 < L)
    (hQ0 : ∀ h t, (∀ b o, g.get? b = some o → h.get? b = some o) → GrownAt 37 h → GrownAt 30 h → Q0 (.ret (.bool true)) { s with heap := h, toks := t }) :
    wpAny (model PR w) (ktrTop dp un gd "law" lawP.val.2.2 L fa cd (lawCl L) []) (execs lawP.val.2.1 (envX "law" lawP.val.2.2 L fa cd (lawCl L))) Q0 (fun _ _ => False) { s with heap := h₁, toks := tk } := by
  have l30 : 30 < L := Nat.lt_trans (by decide) hL
  replace hL := ltN hL
  replace l30 := ltN l30
  simp only [lawCl, lawP]
  refine letIn (P := fun A1 => wpAny _ A1 (execs _ _) _ _ _) (ktrTop _ _ _ _ _ _ _ _ _ _) ?_
  intro A1
  refine letIn (P := fun e1 => wpAny _ A1 (execs _ e1) _ _ _) (envX _ _ _ _ _ _) ?_
  intro e1
  generalize hco : ([(L + 1 + 1 + 1 + 1, o1), (L + 1 + 1 + 1, o2), (L + 1 + 1, o3), (L + 1, o4), (37, tabObj #[]), (30, tabObj #[])] : Led) = core at N
  k_steps
  unfold Stop
  refine joinC (fun R1 => ∀ (i : Int) t h tk, Fr g L h (fun y => List.lookup y [("script", .ref scr)]) → News g L h core → R1 (.int i t) { s with heap := h, toks := tk }) ?_ ?_
  · intro R1 hR1
    refine wpAny_IfExp ?_
    k_steps
    all_goals (rename Fr _ _ _ _ => F2; rename News _ _ _ _ => N2; exact hR1 _ _ _ _ F2 N2)
  intro first t1 h2 tk2 F2 N2
  clear F N
  k_steps
  unfold Stop
  rename Fr _ _ _ _ => F3
  rename News _ _ _ _ => N3
  refine cutM (l := [("script", .ref scr), ("first", .int first t1)]) F3 rfl fun m3 F4 => ?_
  clear F3
  refine joinC (fun R1 => ∀ (i : Int) t h tk, Fr g L h (ov [("script", .ref scr), ("first", .int first t1)] m3) → News g L h core → R1 (.int i t) { s with heap := h, toks := tk }) ?_ ?_
  · intro R1 hR1
    refine wpAny_IfExp ?_
    k_steps
    all_goals (rename Fr _ _ _ _ => F2; rename News _ _ _ _ => N2; exact hR1 _ _ _ _ F2 N2)
  intro second t2 h3 tk3 F5 N5
  clear F4 N3
  k_steps
  unfold Stop
  rename Fr _ _ _ _ => F3
  rename News _ _ _ _ => N3
  refine cutM (l := [("script", .ref scr), ("first", .int first t1), ("second", .int second t2)]) F3 rfl fun m6 F6 => ?_
  clear F3
  refine joinC (fun R1 => ∀ D vals (ks : List Int) n0 h tk, Fr g L h (ov [("script", .ref scr), ("first", .int first t1), ("second", .int second t2)] m6) → News g L h ((D, listOf (List.toArray vals) n0) :: core) → AllLt D core → IntsAre vals ks → 1 ≤ ks.length → ks.length ≤ 4 → (∀ k ∈ ks, intBits k ≤ 1048576) → R1 (.ref D) { s with heap := h, toks := tk }) ?_ ?_
  · intro R1 hR1
    refine BoolOp_or ?_
    k_steps
    · rename Fr _ _ _ _ => F7
      rename News _ _ _ _ => N7
      rename IntsAre _ (List.take _ _) => hI7
      exact hR1 _ _ _ _ _ _ F7 (news_d2 N7) (by assumption) hI7 (by omega) (Nat.le_trans (List.length_take_le _ _) (Nat.sub_le_sub_right (Nat.min_le_left 6 _) 2)) (fun k hk => hbit k (List.mem_of_mem_drop (List.mem_of_mem_take hk)))
    · unfold Stop
      refine BoolOp_one ?_
      k_steps
      rename Fr _ _ _ _ => F7
      rename News _ _ _ _ => N7
      exact hR1 _ [.int 1052631380462 _] [1052631380462] _ _ _ F7 (news_d2 (news_d2 N7)) (by assumption) (.cons _ _ .nil) (Nat.le_refl _) (by decide) (fun k hk => by rw [List.mem_singleton.mp hk]; decide)
  intro D vals ks n0 h7 tk7 F7 N7 hD hIk hk1 hk4 hkb
  clear F6 N3 hI hbit hScr hlen
  subst hco
  simp only [AllLt, and_true] at hD
  obtain ⟨x1, x2, x3, x4, x5, x6⟩ := hD
  have hp60 := Int.emod_nonneg first (show (60 : Int) ≠ 0 by decide)
  have hp5 := Int.emod_nonneg second (show (5 : Int) ≠ 0 by decide)
  have hq5 := Int.emod_lt_of_pos second (show (0 : Int) < 5 by decide)
  have hp6 := Int.emod_lt_of_pos first (show (0 : Int) < 60 by decide)
  have ha1 := Int.emod_nonneg (second / 5) (show (1000 : Int) ≠ 0 by decide)
  have ha2 := Int.emod_lt_of_pos (second / 5) (show (0 : Int) < 1000 by decide)
  have hbs := bits_of_sz second
  k_steps
  refine floordiv_to (v := second / 5) (by decide) (PyProof.noPylong_small (by decide)) (fdiv_pos (by decide)) ?_
  k_steps
  refine mod_to (v := second / 5 % 1000) (by decide) (fmod_pos (by decide)) ?_
  k_steps
  refine mod_to (v := second % 5) (by decide) (fmod_pos (by decide)) ?_
  k_steps
  refine mul_to (lw1 second) (k := 11) (by decide) (by decide) rfl ?_
  k_steps
  refine OpTo.pow (m := 2) (lw2 second) (by decide) (lw3 second) rfl w _ _ _ _ _ _ ?_
  k_steps
  refine mul_to (lw4 second) (lw5 second) (by decide) rfl ?_
  k_steps
  refine floordiv_to (v := szF second) (by decide) (PyProof.noPylong_small (by decide)) (fdiv_pos (by decide)) ?_
  k_steps
  refine mul_to (v := bdF second) (m := 15) (by decide) hbs (by decide) rfl ?_
  k_steps
  refine mod_to (v := first % 60) (by decide) (fmod_pos (by decide)) ?_
  k_steps
  refine floordiv_to (v := ((intBits (szF second) / 15 : Nat) : Int)) (by decide) (PyProof.noPylong_small (by decide)) (fdiv_pos (by decide)) ?_
  k_steps
  refine mul_to (v := ((wdF first second : Nat) : Int)) (lw6 first) (lw7 second) (by decide) (lw8 first second) ?_
  k_steps
  unfold Stop
  rename Fr _ _ _ _ => F8
  rename News _ _ _ _ => N8
  refine LCg.ListComp_U F8 (by with_unfolding_all rfl) (by decide) rfl (by decide) rfl ?_
  k_steps
  unfold Stop
  have hBb : intBits (bdF second) ≤ 4422 := Nat.le_trans (bd_bits second) (Nat.add_le_add_left (bits_of_sz second) 15)
  rename Fr _ _ _ _ => F8
  rename News _ _ _ _ => N8
  refine LCg.CompSrc.range rfl F8 N8 (by assumption) (small_one (by decide) (by decide) (Int.le_trans (show -2 ^ 62 ≤ (0 : Int) by decide) (Int.natCast_nonneg _)) (Int.lt_of_le_of_lt (Int.ofNat_le.mpr hk4) (by decide))) (rangeSize_nat _ _) (by rw [Int.sub_zero, Int.toNat_natCast, sizeLine_eq]; exact Nat.le_trans hk4 (by decide)) ?_
  intro g'
  have hlv := hIk.length
  generalize hco : (_ :: _ : Led) = core at N8 ⊢
  refine compU_ind _ (fun i ys news => news = core ∧ ∃ zs, IntsAre ys zs) ?_ ?_ _ 0 [] _ (Nat.zero_add _) ⟨rfl, [], .nil⟩
  · rintro ys news ⟨rfl, zs, hz⟩ D h tk F4 N4 o1
    subst hco
    clear F8 N8
    simp only [LCg.Off1, and_true] at o1
    obtain ⟨y1, y2, y3, y4, y5, y6, y7⟩ := o1
    k_steps
    refine OpTo.pow (v := bdF second ^ 5) (nn 5) (m := 4422) hBb (by decide) rfl w _ _ _ _ _ _ ?_
    k_steps
    have hB0 := bd_pos second
    have hB5 : 0 < bdF second ^ 5 := Int.pow_pos hB0
    rename Fr _ _ _ _ => F8
    rename News _ _ _ _ => N8
    refine mod_in hB5 fun nb hn0 hn1 => ?_
    refine storeE F8 N8 (fun h9 F9 N9 => ?_) rfl rfl
    exact law_tail B' X' C1 C2 T' hdp hun hL l30 (frM F9 rfl) (news_sub N9 fun p hp => .tail _ (.tail _ hp)) (by assumption) (by assumption) (by assumption) hn0 hn1 hQ0
  · rintro i ys news hi ⟨rfl, zs, hz⟩ v I oI C oC D m₂ h tk E' ⟨tj, rfl⟩ hC hx F3 N3 off ne R1 hR1
    rw [Int.zero_add] at hx
    subst hco
    k_steps
    refine mul_to hBb hBb (by decide) rfl ?_
    k_steps
    refine floordiv_to (by decide) (PyProof.noPylong_small (by decide)) rfl ?_
    k_steps
    refine OpTo.pow (nn _) (m := 8844) (intBits_fdiv_le (intBits_mul_le hBb hBb)) (by rw [Int.toNat_natCast]; omega) rfl w _ _ _ _ _ _ ?_
    k_steps
    refine mul_to (m := 1048576) (k := 26533) ?_ (Nat.le_trans (pow_bits (intBits_fdiv_le (intBits_mul_le hBb hBb)) _) (by rw [Int.toNat_natCast]; omega)) (by decide) rfl ?_
    · rw [List.getD_eq_getElem?_getD, Int.toNat_natCast, List.getElem?_eq_getElem hi]
      exact hkb _ (List.getElem_mem hi)
    k_steps
    rename Fr _ _ _ _ => F9
    rename News _ _ _ _ => N9
    exact hR1 _ _ (LCg.CompEnd.intro F9 N9 _ (fun _ h => h) off trivial ⟨rfl, _, ints_app hz (.cons _ _ .nil)⟩)
end

theorem fin : PySem.Challenge.rw_op0115_01.Holds := by
  w_on
  refine law_of fun said => ?_
  refine holds_open (q := hd.view_1) (Xt := xt0) (XP := XL hd.view_1 []) (YP := hk0.says) left0 hk0.of hk0.keeps (fun s e => xl_of s (Bool.and_eq_true_iff.mp e).1) XL.keeps (by rfl) (by rfl) (by rfl) (fun s e => recFacts_of (Bool.and_eq_true_iff.mp e).2) rfl said (by decide +kernel) ⟨rfl, rfl, rfl, rfl, rfl, by decide +kernel⟩ ?hw ?hc
  case hw => w_witness2
  k_go0
  rename Below _ _ _ _ => B'
  rename Frag.In _ _ => X'
  rename CodeHd _ (34, 30).1 _ => C2
  rename CodeHd _ (41, 37).1 _ => C1
  rename Top _ _ _ _ _ _ => T'
  rename Heap.IsList _ _ _ => hScr
  rename IntsAre _ _ => hI
  rename (¬ (_ : Int) < _) => hcond
  rename PyData.layable0 _ = true => hlay
  rename Fr _ _ _ _ => F'
  rename News _ _ _ _ => N'
  rename (@LT.lt Nat _ 37 _) => l37
  rename Shared => s1
  rename s1.gens = #[] => hgen
  refine wpAny_mono (law_core (Q0 := fun f s' => f = .ret (.bool true) ∧ ∃ h t, s' = { s1 with heap := h, toks := t } ∧ (∀ b o, (ghostOf s1.heap [(41, 37), (34, 30)]).get? b = some o → h.get? b = some o) ∧ GrownAt 37 h ∧ GrownAt 30 h) B' X' C1 C2 T' (show 1 + claimMargin + 1 + 400 ≤ recursionLimit by decide) (show 4 + 3 + 2000 ≤ cLine + 2 by decide) hScr hI (by omega) (fun n hn => intBits_le_of_item hn hlay) (by with_unfolding_all assumption) (by with_unfolding_all assumption) (by with_unfolding_all assumption) (by with_unfolding_all assumption) ?_ N' l37 (fun h t k1 k2 k3 => ⟨rfl, _, _, rfl, k1, k2, k3⟩)) ?_ (fun _ _ h => h.elim)
  · exact frL F' [("script", .ref _)] ⟨by with_unfolding_all rfl, trivial⟩ (fun y hy => by
      simp only [List.map, List.mem_cons, List.not_mem_nil, or_false] at hy
      show (if y = Str.ofString "script" then _ else _) = none
      rw [if_neg hy])
  · rintro _ _ ⟨rfl, h, t, rfl, k1, k2, k3⟩
    exact ⟨⟨.inl ⟨.bool true, .bool true, [], rfl, fun _ => rfl, by with_unfolding_all exact (by constructor), by first | decide | with_unfolding_all rfl | kernel_rfl | (with_unfolding_all decide), fun _ => ⟨List.nodup_nil, fun _ h => nomatch h⟩⟩, k1, rfl, hgen⟩, k2, k3, trivial⟩

end Mine
set_option maxRecDepth 100000 in
set_option maxHeartbeats 8000000 in
theorem PySem.Challenge.cw_op0115_01_holds : PySem.Challenge.rw_op0115_01.Holds :=
  Mine.fin
