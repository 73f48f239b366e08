import PyProof.Rows.All
import Wide.All
import OpenK.AllK
import Wide.FinOn
import PySem.Challenge.RW_bw0027_01
open PySem PySem.W PySem.Spec PySem.Calls PyProof.Rows
set_option Elab.async false
set_option rowWalk.seconds 0
namespace Mine
noncomputable def isqN : Nat → Nat
  | 0 => 0
  | n + 1 => if (isqN n + 1) * (isqN n + 1) ≤ n + 1 then isqN n + 1 else isqN n
@[irreducible] noncomputable def isq (x : Int) : Int := isqN x.toNat

theorem isqN_spec : ∀ n : Nat, isqN n * isqN n ≤ n ∧ n < (isqN n + 1) * (isqN n + 1)
  | 0 => by simp [isqN]
  | n + 1 => by
    have ih := isqN_spec n
    unfold isqN
    split
    · rename_i h
      refine ⟨h, ?_⟩
      have : (isqN n + 1 + 1) * (isqN n + 1 + 1) = (isqN n + 1) * (isqN n + 1) + 2 * isqN n + 3 := by grind
      omega
    · omega
theorem isqN_uniq {n r : Nat} (h1 : r * r ≤ n) (h2 : n < (r + 1) * (r + 1)) : isqN n = r := by
  have ⟨h3, h4⟩ := isqN_spec n
  have a1 : ¬ (isqN n + 1 ≤ r) := fun h => by
    have := Nat.mul_le_mul h h; omega
  have a2 : ¬ (r + 1 ≤ isqN n) := fun h => by
    have := Nat.mul_le_mul h h; omega
  omega
theorem isq_nonneg (x : Int) : 0 ≤ isq x := by unfold isq; exact Int.natCast_nonneg _
theorem isq_spec {x : Int} (hx : 0 ≤ x) : isq x * isq x ≤ x ∧ x < (isq x + 1) * (isq x + 1) := by
  obtain ⟨n, rfl⟩ := Int.eq_ofNat_of_zero_le hx
  unfold isq
  rw [Int.toNat_natCast]
  have ⟨h1, h2⟩ := isqN_spec n
  exact ⟨by exact_mod_cast h1, by exact_mod_cast h2⟩
theorem isq_uniq {x r : Int} (h0 : 0 ≤ r) (h1 : r * r ≤ x) (h2 : x < (r + 1) * (r + 1)) : isq x = r := by
  obtain ⟨k, rfl⟩ := Int.eq_ofNat_of_zero_le h0
  have hx : 0 ≤ x := Int.le_trans (Int.mul_nonneg h0 h0) h1
  obtain ⟨n, rfl⟩ := Int.eq_ofNat_of_zero_le hx
  unfold isq
  rw [Int.toNat_natCast, isqN_uniq (n := n) (r := k)]
  · exact_mod_cast h1
  · exact_mod_cast h2
theorem isq_zero : isq 0 = 0 := isq_uniq (by decide) (by decide) (by decide)
theorem isq_sq {r : Int} (h : 0 ≤ r) : isq (r * r) = r := isq_uniq h (Int.le_refl _) (by
  have : (r + 1) * (r + 1) = r * r + 2 * r + 1 := by grind
  omega)
theorem isq_bounds {x : Int} (hx : 0 ≤ x) : 0 ≤ isq x ∧ isq x * isq x ≤ x ∧ x ≤ isq x * isq x + 2 * isq x := by
  have ⟨h1, h2⟩ := isq_spec hx
  have : (isq x + 1) * (isq x + 1) = isq x * isq x + 2 * isq x + 1 := by grind
  exact ⟨isq_nonneg x, h1, by omega⟩
theorem isq_le {x : Int} (hx : 0 ≤ x) : isq x ≤ x := by
  have ⟨h0, h1, _⟩ := isq_bounds hx
  rcases (show isq x = 0 ∨ 1 ≤ isq x by omega) with h | h
  · omega
  · have := Int.mul_le_mul_of_nonneg_left h h0
    omega
theorem bits_isq {x : Int} {m : Nat} (hx : 0 ≤ x) (h : Builtin.Int.intBits x ≤ m) : Builtin.Int.intBits (isq x) ≤ m :=
  bits_of_natAbs_le (by have := isq_le hx; have := isq_nonneg x; omega) h

theorem lt_pow_bits {x : Int} (hx : 0 ≤ x) : x < 2 ^ (Builtin.Int.intBits x) := by
  obtain ⟨n, rfl⟩ := Int.eq_ofNat_of_zero_le hx
  have h := natAbs_lt_pow_bits (n : Int)
  exact_mod_cast h

theorem newton_init {x : Int} (hx : 0 ≤ x) : 0 < 1 * (2:Int) ^ (((Builtin.Int.intBits x : Int) + 1).fdiv (2 ^ Int.toNat 1)).toNat ∧ x < (1 * (2:Int) ^ (((Builtin.Int.intBits x : Int) + 1).fdiv (2 ^ Int.toNat 1)).toNat + 1) * (1 * (2:Int) ^ (((Builtin.Int.intBits x : Int) + 1).fdiv (2 ^ Int.toNat 1)).toNat + 1) := by
  have hb := lt_pow_bits hx
  have e : (2:Int) ^ Int.toNat 1 = 2 := by decide
  rw [e]
  generalize Builtin.Int.intBits x = b at *
  have ⟨_, f1, f2, _⟩ := fdiv_fmod_facts ((b:Int) + 1) 2
  have f2 := f2 (by decide)
  have hk : b ≤ (((b:Int) + 1).fdiv 2).toNat + (((b:Int) + 1).fdiv 2).toNat := by omega
  generalize (((b:Int) + 1).fdiv 2).toNat = k at *
  have h1 : (2:Int) ^ b ≤ 2 ^ (k + k) := by exact_mod_cast Nat.pow_le_pow_right (by decide) hk
  rw [Int.pow_add] at h1
  have h0 : (0:Int) < 2 ^ k := Int.pow_pos (by decide)
  generalize (2:Int) ^ k = p at *
  refine ⟨by omega, ?_⟩
  have : (1 * p + 1) * (1 * p + 1) = p * p + 2 * p + 1 := by grind
  omega
theorem newton_keep {x r : Int} (hx : 0 ≤ x) (hx0 : x ≠ 0) (h : 0 < r ∧ x < (r + 1) * (r + 1)) : 0 < (r + x.fdiv r).fdiv (2 ^ Int.toNat 1) ∧ x < ((r + x.fdiv r).fdiv (2 ^ Int.toNat 1) + 1) * ((r + x.fdiv r).fdiv (2 ^ Int.toNat 1) + 1) := by
  have e : (2:Int) ^ Int.toNat 1 = 2 := by decide
  rw [e]
  obtain ⟨h0, h1⟩ := h
  have ⟨g1, _, g2, _⟩ := fdiv_fmod_facts x r
  have g2 := g2 h0
  have ⟨f1, _, f2, _⟩ := fdiv_fmod_facts (r + x.fdiv r) 2
  have f2 := f2 (by decide)
  generalize x.fdiv r = q at *
  generalize (r + q).fdiv 2 = y at *
  have hq : 0 ≤ q := by
    rcases (show 0 ≤ q ∨ q + 1 ≤ 0 by omega) with h | h
    · exact h
    · have := Int.mul_le_mul_of_nonneg_right h (Int.le_of_lt h0)
      rw [Int.add_mul] at this
      omega
  have k1 : (r + (q + 1)) * (r + (q + 1)) = (r - (q + 1)) * (r - (q + 1)) + 4 * (q * r + r) := by grind
  have k2 : 0 ≤ (r - (q + 1)) * (r - (q + 1)) := by
    rcases Int.le_total 0 (r - (q + 1)) with h | h
    · exact Int.mul_nonneg h h
    · exact Int.mul_nonneg_of_nonpos_of_nonpos h h
  have k3 : r + (q + 1) ≤ 2 * (y + 1) := by omega
  have k4 := Int.mul_le_mul k3 k3 (by omega) (by omega)
  have k5 : 2 * (y + 1) * (2 * (y + 1)) = 4 * ((y + 1) * (y + 1)) := by grind
  refine ⟨?_, by omega⟩
  rcases (show r = 1 ∨ 2 ≤ r by omega) with h | h
  · subst h; omega
  · omega
theorem newton_end {x r : Int} (hx : 0 ≤ x) (h : 0 < r ∧ x < (r + 1) * (r + 1)) (hy : r ≤ (r + x.fdiv r).fdiv (2 ^ Int.toNat 1)) : r = isq x := by
  have e : (2:Int) ^ Int.toNat 1 = 2 := by decide
  rw [e] at hy
  obtain ⟨h0, h1⟩ := h
  have ⟨g1, _, g2, _⟩ := fdiv_fmod_facts x r
  have g2 := g2 h0
  have ⟨f1, _, f2, _⟩ := fdiv_fmod_facts (r + x.fdiv r) 2
  have f2 := f2 (by decide)
  generalize x.fdiv r = q at *
  generalize (r + q).fdiv 2 = y at *
  refine (isq_uniq (Int.le_of_lt h0) ?_ h1).symm
  have : r ≤ q := by omega
  have := Int.mul_le_mul_of_nonneg_right this (Int.le_of_lt h0)
  omega

theorem log2_mono {a b : Nat} (h : a ≤ b) : a.log2 ≤ b.log2 := by
  rcases Nat.eq_zero_or_pos a with h0 | h0
  · subst h0; simp
  · have : 2 ^ a.log2 ≤ b := Nat.le_trans (Nat.log2_self_le (by omega)) h
    exact (Nat.le_log2 (by omega)).mpr this
def NInv (x r : Int) : Prop := 0 < r ∧ x < (r + 1) * (r + 1) ∧ r.natAbs.log2 < 9000
theorem ninv_pos {x r : Int} (h : NInv x r) : r ≠ 0 := by have := h.1; omega
theorem ninv_log {x r : Int} (h : NInv x r) : r.natAbs.log2 < 9000 := h.2.2
theorem ninv_init {x : Int} (hx : 0 ≤ x) (hb : Builtin.Int.intBits x ≤ 4000) : NInv x (1 * (2:Int) ^ (((Builtin.Int.intBits x : Int) + 1).fdiv (2 ^ Int.toNat 1)).toNat) := by
  refine ⟨(newton_init hx).1, (newton_init hx).2, ?_⟩
  have e : (2:Int) ^ Int.toNat 1 = 2 := by decide
  rw [e]
  generalize Builtin.Int.intBits x = b at *
  have ⟨_, f1, f2, _⟩ := fdiv_fmod_facts ((b:Int) + 1) 2
  have f2 := f2 (by decide)
  have hk : (((b:Int) + 1).fdiv 2).toNat ≤ 4001 := by omega
  generalize (((b:Int) + 1).fdiv 2).toNat = k at *
  rw [Int.one_mul, Int.natAbs_pow]
  show (2 ^ k).log2 < 9000
  rw [Nat.log2_two_pow]
  omega
theorem ninv_keep {x r : Int} (hx : 0 ≤ x) (hx0 : x ≠ 0) (h : NInv x r) (hy : ¬ (r + x.fdiv r).fdiv (2 ^ Int.toNat 1) ≥ r) : NInv x ((r + x.fdiv r).fdiv (2 ^ Int.toNat 1)) := by
  have ⟨k1, k2⟩ := newton_keep hx hx0 ⟨h.1, h.2.1⟩
  refine ⟨k1, k2, Nat.lt_of_le_of_lt (log2_mono ?_) h.2.2⟩
  generalize (r + x.fdiv r).fdiv (2 ^ Int.toNat 1) = y at *
  have := h.1
  omega
theorem ninv_meas {x r y : Int} (h : NInv x r) (hy : ¬ y ≥ r) : y.toNat < r.toNat := by have := h.1; omega
theorem bits_half {b : Nat} (h : b ≤ 4000) : 0 ≤ ((b : Int) + 1).fdiv (2 ^ Int.toNat 1) ∧ (Builtin.Int.intBits 1 : Int) + ((b : Int) + 1).fdiv (2 ^ Int.toNat 1) ≤ 2 ^ 27 := by
  have e : (2:Int) ^ Int.toNat 1 = 2 := by decide
  rw [e]
  have e2 : Builtin.Int.intBits 1 = 1 := by decide
  rw [e2]
  have ⟨_, f1, f2, _⟩ := fdiv_fmod_facts ((b:Int) + 1) 2
  have f2 := f2 (by decide)
  omega
theorem ninv_end {x r : Int} (hx : 0 ≤ x) (h : NInv x r) (hy : (r + x.fdiv r).fdiv (2 ^ Int.toNat 1) ≥ r) : r = isq x := newton_end hx ⟨h.1, h.2.1⟩ hy
end Mine

namespace Mine
open PySem.Builtin.Int (intBits)
/-- how often two divides -/
noncomputable def tzF : Nat → Nat → Nat
  | 0, _ => 0
  | k + 1, n => if n % 2 = 0 then tzF k (n / 2) + 1 else 0
@[irreducible] noncomputable def tz (n : Int) : Nat := tzF n.toNat n.toNat
theorem tzF_spec : ∀ (k n : Nat), 0 < n → n ≤ k → ∃ m, n = 2 ^ tzF k n * m ∧ m % 2 = 1
  | 0, n, h0, h => by omega
  | k + 1, n, h0, h => by
    unfold tzF
    split
    · rename_i h2
      obtain ⟨m, e, hm⟩ := tzF_spec k (n / 2) (by omega) (by omega)
      refine ⟨m, ?_, hm⟩
      rw [Nat.pow_succ, Nat.mul_assoc, Nat.mul_comm 2 m, ← Nat.mul_assoc, ← e]
      omega
    · exact ⟨n, by simp, by omega⟩
theorem odd_split_uniq {a b : Nat} : ∀ {k l : Nat}, 2 ^ k * a = 2 ^ l * b → a % 2 = 1 → b % 2 = 1 → k = l ∧ a = b
  | 0, 0, h, _, _ => by simpa using h
  | 0, l + 1, h, ha, _ => by rw [Nat.pow_succ, Nat.mul_assoc, Nat.mul_left_comm] at h; simp at h; omega
  | k + 1, 0, h, _, hb => by rw [Nat.pow_succ, Nat.mul_assoc, Nat.mul_left_comm] at h; simp at h; omega
  | k + 1, l + 1, h, ha, hb => by
    rw [Nat.pow_succ, Nat.pow_succ, Nat.mul_assoc, Nat.mul_assoc, Nat.mul_left_comm, Nat.mul_left_comm (2 ^ l)] at h
    have ⟨h1, h2⟩ := odd_split_uniq (k := k) (l := l) (by omega) ha hb
    omega
theorem tz_spec {n : Int} (h : 0 < n) : ∃ m : Nat, n = 2 ^ tz n * (m : Int) ∧ m % 2 = 1 := by
  obtain ⟨k, rfl⟩ := Int.eq_ofNat_of_zero_le (Int.le_of_lt h)
  unfold tz
  rw [Int.toNat_natCast]
  obtain ⟨m, e, hm⟩ := tzF_spec k k (by omega) (Nat.le_refl _)
  exact ⟨m, by exact_mod_cast e, hm⟩
theorem tz_uniq {n : Int} {k m : Nat} (h : n = 2 ^ k * (m : Int)) (hm : m % 2 = 1) : tz n = k := by
  have hn : 0 < n := by
    rw [h]
    exact Int.mul_pos (Int.pow_pos (by decide)) (by omega)
  obtain ⟨m', e, hm'⟩ := tz_spec hn
  rw [h] at e
  have e' : 2 ^ k * m = 2 ^ tz n * m' := by
    rw [h]
    exact_mod_cast e
  exact (odd_split_uniq e' hm hm').1.symm
/-- the odd part -/
@[irreducible] noncomputable def sM (n : Int) : Int := n.fdiv (2 ^ tz n)
theorem fdiv_mul_pow {m : Int} {k : Nat} : (2 ^ k * m).fdiv (2 ^ k) = m := Int.mul_fdiv_cancel_left _ (by have : (0:Int) < 2 ^ k := Int.pow_pos (by decide); omega)
theorem sM_eq {n : Int} {k m : Nat} (h : n = 2 ^ k * (m : Int)) (hm : m % 2 = 1) : sM n = m := by
  unfold sM
  rw [tz_uniq h hm, h, fdiv_mul_pow]
theorem sM_spec {n : Int} (h : 0 < n) : n = 2 ^ tz n * sM n ∧ sM n % 2 = 1 ∧ 0 < sM n := by
  obtain ⟨m, e, hm⟩ := tz_spec h
  have := sM_eq e hm
  rw [this]
  exact ⟨e, by omega, by omega⟩
theorem sM_mul {n : Int} (h : 0 < n) (k : Nat) : sM (2 ^ k * n) = sM n ∧ tz (2 ^ k * n) = tz n + k := by
  obtain ⟨m, e, hm⟩ := tz_spec h
  have e2 : 2 ^ k * n = 2 ^ (k + tz n) * (m : Int) := by
    rw [Int.pow_add, Int.mul_assoc, ← e]
  rw [sM_eq e2 hm, tz_uniq e2 hm, sM_eq e hm]
  exact ⟨rfl, Nat.add_comm _ _⟩
theorem sM_odd {n : Int} (h : 0 < n) (h2 : n % 2 = 1) : sM n = n ∧ tz n = 0 := by
  obtain ⟨k, rfl⟩ := Int.eq_ofNat_of_zero_le (Int.le_of_lt h)
  have e : (k : Int) = 2 ^ 0 * (k : Int) := by simp
  exact ⟨sM_eq e (by omega), tz_uniq e (by omega)⟩

theorem and_pred : ∀ (k n : Nat), 0 < n → n ≤ k → n &&& (n - 1) = n - 2 ^ tzF k n
  | 0, n, h0, h => by omega
  | k + 1, n, h0, h => by
    unfold tzF
    have hd : (n &&& (n - 1)) / 2 = n / 2 &&& (n - 1) / 2 := Nat.and_div_two
    have hm : (n &&& (n - 1)) % 2 = 0 := by
      have : (n &&& (n - 1)) % 2 = (n % 2) &&& ((n - 1) % 2) := by
        have := Nat.and_mod_two_pow (a := n) (b := n - 1) (n := 1)
        simpa using this
      rw [this]
      rcases Nat.mod_two_eq_zero_or_one n with h2 | h2
      · rw [h2]; simp
      · rw [show (n - 1) % 2 = 0 by omega]; simp
    split
    · rename_i h2
      have ih := and_pred k (n / 2) (by omega) (by omega)
      have e : (n - 1) / 2 = n / 2 - 1 := by omega
      rw [e, ih] at hd
      have : 2 ^ tzF k (n / 2) ≤ n / 2 := by
        obtain ⟨m, e, hm⟩ := tzF_spec k (n / 2) (by omega) (by omega)
        have : 2 ^ tzF k (n / 2) * 1 ≤ 2 ^ tzF k (n / 2) * m := Nat.mul_le_mul_left _ (by omega)
        omega
      rw [Nat.pow_succ]
      omega
    · rename_i h2
      have e : (n - 1) / 2 = n / 2 := by omega
      rw [e, Nat.and_self] at hd
      simp
      omega
theorem bits_pow2 (k : Nat) : intBits (2 ^ k) = k + 1 := by
  unfold intBits
  have h : (2:Int) ^ k ≠ 0 := by have : (0:Int) < 2 ^ k := Int.pow_pos (by decide); omega
  rw [if_neg (by simpa using h), Int.natAbs_pow]
  show (2 ^ k).log2 + 1 = k + 1
  rw [Nat.log2_two_pow]
theorem trailing_eq {n : Int} (h : 0 < n) : ((intBits (Builtin.bitAnd n (-n)) : Nat) : Int) - 1 = tz n := by
  obtain ⟨k, rfl⟩ := Int.eq_ofNat_of_zero_le (Int.le_of_lt h)
  have hk : 0 < k := by omega
  have e : Builtin.bitAnd (k : Int) (-(k : Int)) = 2 ^ tzF k k := by
    unfold Builtin.bitAnd
    rw [decide_eq_true (show (0:Int) ≤ k by omega), decide_eq_false (show ¬ (0:Int) ≤ -(k:Int) by omega)]
    dsimp only
    have e1 : (Builtin.bitNot (-(k:Int))).toNat = k - 1 := by unfold Builtin.bitNot; omega
    rw [e1, Int.toNat_natCast, and_pred k k hk (Nat.le_refl _)]
    obtain ⟨m, e, hm⟩ := tzF_spec k k hk (Nat.le_refl _)
    have : 2 ^ tzF k k * 1 ≤ 2 ^ tzF k k * m := Nat.mul_le_mul_left _ (by omega)
    have h3 : 2 ^ tzF k k ≤ k := by omega
    have : ((2 ^ tzF k k : Nat) : Int) = 2 ^ tzF k k := by simp
    omega
  rw [e, bits_pow2]
  unfold tz
  rw [Int.toNat_natCast]
  omega
end Mine

namespace Mine
open PySem.Builtin.Int (intBits)
inductive Way | n | f | c | u | d
@[irreducible] def Way.str : Way → Str
  | .n => Str.ofString "n" | .f => Str.ofString "f" | .c => Str.ofString "c" | .u => Str.ofString "u" | .d => Str.ofString "d"
theorem Way.str_n : Way.str .n = Str.ofString "n" := by unfold Way.str; rfl
theorem Way.str_f : Way.str .f = Str.ofString "f" := by unfold Way.str; rfl
theorem Way.str_c : Way.str .c = Str.ofString "c" := by unfold Way.str; rfl
theorem Way.str_u : Way.str .u = Str.ofString "u" := by unfold Way.str; rfl
theorem Way.str_d : Way.str .d = Str.ofString "d" := by unfold Way.str; rfl
theorem bitAnd_nat (a b : Nat) : Builtin.bitAnd (a : Int) (b : Int) = ((a &&& b : Nat) : Int) := by
  unfold Builtin.bitAnd
  rw [decide_eq_true (show (0:Int) ≤ a by omega), decide_eq_true (show (0:Int) ≤ b by omega)]
  simp
theorem bitAnd_one {n : Int} (h : 0 ≤ n) : Builtin.bitAnd n 1 = n % 2 := by
  obtain ⟨k, rfl⟩ := Int.eq_ofNat_of_zero_le h
  rw [show (1 : Int) = ((1 : Nat) : Int) by rfl, bitAnd_nat, Nat.and_one_is_mod]
  omega
theorem and_two (k : Nat) : k &&& 2 = 2 * (k / 2 % 2) := by
  have h1 : (k &&& 2) / 2 = k / 2 &&& 1 := by rw [Nat.and_div_two]
  have h2 : (k &&& 2) % 2 = 0 := by
    have := Nat.and_mod_two_pow (a := k) (b := 2) (n := 1)
    simpa using this
  rw [Nat.and_one_is_mod] at h1
  omega
theorem bitAnd_two {n : Int} (h : 0 ≤ n) : Builtin.bitAnd n 2 = 2 * (n / 2 % 2) := by
  obtain ⟨k, rfl⟩ := Int.eq_ofNat_of_zero_le h
  rw [show (2 : Int) = ((2 : Nat) : Int) by rfl, bitAnd_nat, and_two]
  omega
theorem bitAnd_mask {n : Int} (h : 0 ≤ n) (k : Nat) : Builtin.bitAnd n (1 * 2 ^ k - 1) = n % 2 ^ k := by
  obtain ⟨j, rfl⟩ := Int.eq_ofNat_of_zero_le h
  have hp : 0 < 2 ^ k := Nat.pow_pos (by decide)
  have e : (1 * 2 ^ k - 1 : Int) = ((2 ^ k - 1 : Nat) : Int) := by
    rw [Int.natCast_sub hp]; simp
  rw [e, bitAnd_nat, Nat.and_two_pow_sub_one_eq_mod]
  simp
/-- a number and its exponent, rounded off by so many bits -/
def rsh : Way → Int → Int → Int
  | .f, man, n => man.fdiv (2 ^ n.toNat)
  | .d, man, n => man.fdiv (2 ^ n.toNat)
  | .c, man, n => -(-man).fdiv (2 ^ n.toNat)
  | .u, man, n => -(-man).fdiv (2 ^ n.toNat)
  | .n, man, n => if Builtin.bitAnd (man.fdiv (2 ^ (n - 1).toNat)) 1 ≠ 0 ∧ (Builtin.bitAnd (man.fdiv (2 ^ (n - 1).toNat)) 2 ≠ 0 ∨ Builtin.bitAnd man (1 * 2 ^ (n - 1).toNat - 1) ≠ 0)
      then (man.fdiv (2 ^ (n - 1).toNat)).fdiv (2 ^ Int.toNat 1) + 1 else (man.fdiv (2 ^ (n - 1).toNat)).fdiv (2 ^ Int.toNat 1)
theorem rsh_n1 {man n : Int} (h1 : Builtin.bitAnd (man.fdiv (2 ^ (n - 1).toNat)) 1 ≠ 0) (h2 : Builtin.bitAnd (man.fdiv (2 ^ (n - 1).toNat)) 2 ≠ 0) : (man.fdiv (2 ^ (n - 1).toNat)).fdiv (2 ^ Int.toNat 1) + 1 = rsh .n man n := by
  exact (if_pos ⟨h1, .inl h2⟩).symm
theorem rsh_n2 {man n : Int} (h1 : Builtin.bitAnd (man.fdiv (2 ^ (n - 1).toNat)) 1 ≠ 0) (h2 : Builtin.bitAnd man (1 * 2 ^ (n - 1).toNat - 1) ≠ 0) : (man.fdiv (2 ^ (n - 1).toNat)).fdiv (2 ^ Int.toNat 1) + 1 = rsh .n man n := by
  exact (if_pos ⟨h1, .inr h2⟩).symm
theorem rsh_n3 {man n : Int} (h1 : Builtin.bitAnd (man.fdiv (2 ^ (n - 1).toNat)) 1 = 0) : (man.fdiv (2 ^ (n - 1).toNat)).fdiv (2 ^ Int.toNat 1) = rsh .n man n := by
  exact (if_neg (fun h => h.1 h1)).symm
theorem rsh_n4 {man n : Int} (h1 : Builtin.bitAnd (man.fdiv (2 ^ (n - 1).toNat)) 2 = 0) (h2 : Builtin.bitAnd man (1 * 2 ^ (n - 1).toNat - 1) = 0) : (man.fdiv (2 ^ (n - 1).toNat)).fdiv (2 ^ Int.toNat 1) = rsh .n man n := by
  exact (if_neg (fun h => h.2.elim (· h1) (· h2))).symm

theorem pow2_pos (k : Nat) : (0:Int) < 2 ^ k := Int.pow_pos (by decide)
theorem pow2_mono {a b : Nat} (h : a ≤ b) : (2:Int) ^ a ≤ 2 ^ b := by exact_mod_cast Nat.pow_le_pow_right (by decide) h
theorem bits_lo {x : Int} (h : 0 < x) : (2:Int) ^ (intBits x - 1) ≤ x := by
  obtain ⟨n, rfl⟩ := Int.eq_ofNat_of_zero_le (Int.le_of_lt h)
  have hn : n ≠ 0 := by omega
  have e : intBits (n : Int) - 1 = n.log2 := by
    unfold intBits
    rw [if_neg (by simpa using hn)]
    simp
  rw [e]
  exact_mod_cast Nat.log2_self_le hn
theorem bits_pos {x : Int} (h : 0 < x) : 1 ≤ intBits x := by
  unfold intBits
  rw [if_neg (by have : x ≠ 0 := by omega
                 simpa using this)]
  omega
theorem bits_eq {x : Int} {k : Nat} (h1 : (2:Int) ^ k ≤ x) (h2 : x < 2 ^ (k + 1)) : intBits x = k + 1 := by
  have hx : 0 < x := Int.lt_of_lt_of_le (pow2_pos k) h1
  obtain ⟨n, rfl⟩ := Int.eq_ofNat_of_zero_le (Int.le_of_lt hx)
  have hn : n ≠ 0 := by omega
  unfold intBits
  rw [if_neg (by simpa using hn)]
  have a1 : 2 ^ k ≤ n := by exact_mod_cast h1
  have a2 : n < 2 ^ (k + 1) := by exact_mod_cast h2
  have b1 := (Nat.le_log2 hn).mpr a1
  have b2 := (Nat.log2_lt hn).mpr a2
  simp
  omega
theorem bits_mul_pow {x : Int} (h : 0 < x) (k : Nat) : intBits (2 ^ k * x) = intBits x + k := by
  have h1 := bits_lo h
  have h2 := lt_pow_bits (Int.le_of_lt h)
  have h3 := bits_pos h
  have e : intBits (2 ^ k * x) = (k + (intBits x - 1)) + 1 := by
    refine bits_eq ?_ ?_
    · rw [Int.pow_add]
      exact Int.mul_le_mul_of_nonneg_left h1 (Int.le_of_lt (pow2_pos k))
    · rw [show k + (intBits x - 1) + 1 = k + intBits x by omega, Int.pow_add]
      exact Int.mul_lt_mul_of_pos_left h2 (pow2_pos k)
  omega
theorem bits_odd {x : Int} (h : 0 < x) : intBits x = intBits (sM x) + tz x := by
  have ⟨e, _, h0⟩ := sM_spec h
  have := bits_mul_pow h0 (tz x)
  rw [← e] at this
  exact this
/-- the last word on the bits of what was rounded to so many bits -/
theorem bits_end {m' prec : Int} (hp : 1 ≤ prec) (h1 : 2 ^ (prec - 1).toNat ≤ m') (h2 : m' ≤ 2 ^ prec.toNat) : (sM m' = 1 → (1 : Int) = intBits (sM m')) ∧ (sM m' ≠ 1 → prec - tz m' = intBits (sM m')) := by
  refine ⟨fun h => by rw [h]; rfl, fun h => ?_⟩
  have hm : 0 < m' := Int.lt_of_lt_of_le (pow2_pos _) h1
  have hlt : m' ≠ 2 ^ prec.toNat := by
    intro e
    refine h ?_
    rw [e]
    exact (sM_eq (k := prec.toNat) (m := 1) (by simp) rfl)
  have hb : intBits m' = (prec - 1).toNat + 1 := bits_eq h1 (by rw [show (prec - 1).toNat + 1 = prec.toNat by omega]; omega)
  have := bits_odd hm
  omega
theorem fdiv_pow_facts (a : Int) (k : Nat) : a.fdiv (2 ^ k) * 2 ^ k ≤ a ∧ a < a.fdiv (2 ^ k) * 2 ^ k + 2 ^ k := by
  have ⟨f1, _, f2, _⟩ := fdiv_fmod_facts a (2 ^ k)
  have f2 := f2 (pow2_pos k)
  omega
theorem fdiv_pow_range {man prec : Int} (hm : 0 < man) (hp : 1 ≤ prec) (hn : 0 < (intBits man : Int) - prec) :
    2 ^ (prec - 1).toNat ≤ man.fdiv (2 ^ ((intBits man : Int) - prec).toNat) ∧ man.fdiv (2 ^ ((intBits man : Int) - prec).toNat) < 2 ^ prec.toNat := by
  have h1 := bits_lo hm
  have h2 := lt_pow_bits (Int.le_of_lt hm)
  have ⟨f1, f2⟩ := fdiv_pow_facts man ((intBits man : Int) - prec).toNat
  generalize hk : ((intBits man : Int) - prec).toNat = k at *
  have e1 : intBits man - 1 = (prec - 1).toNat + k := by omega
  have e2 : intBits man = prec.toNat + k := by omega
  rw [e1, Int.pow_add] at h1
  rw [e2, Int.pow_add] at h2
  have hk0 := pow2_pos k
  generalize man.fdiv (2 ^ k) = q at *
  constructor
  · apply Int.le_of_lt_add_one
    apply Int.lt_of_mul_lt_mul_right (a := 2 ^ k) _ (Int.le_of_lt hk0)
    rw [Int.add_mul]
    omega
  · apply Int.lt_of_mul_lt_mul_right (a := 2 ^ k) _ (Int.le_of_lt hk0)
    omega
theorem half_fdiv {man : Int} {k : Nat} : (man.fdiv (2 ^ k)).fdiv (2 ^ Int.toNat 1) = man.fdiv (2 ^ (k + 1)) := by
  have h1 := Int.le_of_lt (pow2_pos k)
  rw [show (2:Int) ^ Int.toNat 1 = 2 by decide, Int.pow_succ, Int.fdiv_eq_ediv_of_nonneg _ h1, Int.fdiv_eq_ediv_of_nonneg _ (by decide), Int.fdiv_eq_ediv_of_nonneg _ (by omega), Int.ediv_ediv, if_neg (by omega), Int.sub_zero]
theorem neg_fdiv_pow (man : Int) (k : Nat) : man.fdiv (2 ^ k) ≤ -(-man).fdiv (2 ^ k) ∧ -(-man).fdiv (2 ^ k) ≤ man.fdiv (2 ^ k) + 1 := by
  have ⟨f1, f2⟩ := fdiv_pow_facts man k
  have ⟨g1, g2⟩ := fdiv_pow_facts (-man) k
  have hk0 := pow2_pos k
  generalize man.fdiv (2 ^ k) = q at *
  generalize (-man).fdiv (2 ^ k) = r at *
  generalize (2:Int) ^ k = p at *
  constructor
  · apply Int.le_of_lt_add_one
    apply Int.lt_of_mul_lt_mul_right (a := p) _ (Int.le_of_lt hk0)
    rw [Int.add_mul, Int.neg_mul]
    omega
  · apply Int.le_of_lt_add_one
    apply Int.lt_of_mul_lt_mul_right (a := p) _ (Int.le_of_lt hk0)
    rw [Int.add_mul, Int.add_mul, Int.neg_mul]
    omega
theorem rsh_near (wy : Way) {man n : Int} (hn : 0 < n) : man.fdiv (2 ^ n.toNat) ≤ rsh wy man n ∧ rsh wy man n ≤ man.fdiv (2 ^ n.toNat) + 1 := by
  cases wy with
  | f => show man.fdiv _ ≤ man.fdiv _ ∧ man.fdiv _ ≤ man.fdiv _ + 1; omega
  | d => show man.fdiv _ ≤ man.fdiv _ ∧ man.fdiv _ ≤ man.fdiv _ + 1; omega
  | c => exact neg_fdiv_pow _ _
  | u => exact neg_fdiv_pow _ _
  | n =>
    have e : (man.fdiv (2 ^ (n - 1).toNat)).fdiv (2 ^ Int.toNat 1) = man.fdiv (2 ^ n.toNat) := by
      rw [half_fdiv, show (n - 1).toNat + 1 = n.toNat by omega]
    simp only [rsh]
    rw [e]
    split <;> omega
theorem rsh_range (wy : Way) {man prec : Int} (hm : 0 < man) (hp : 1 ≤ prec) (hn : 0 < (intBits man : Int) - prec) :
    2 ^ (prec - 1).toNat ≤ rsh wy man ((intBits man : Int) - prec) ∧ rsh wy man ((intBits man : Int) - prec) ≤ 2 ^ prec.toNat := by
  have h1 := fdiv_pow_range hm hp hn
  have h2 := rsh_near wy (man := man) hn
  omega
theorem rsh_pos (wy : Way) {man prec : Int} (hm : 0 < man) (hp : 1 ≤ prec) (hn : 0 < (intBits man : Int) - prec) : 0 < rsh wy man ((intBits man : Int) - prec) :=
  Int.lt_of_lt_of_le (pow2_pos _) (rsh_range wy hm hp hn).1
/-- the odd part, its exponent, its bits -/
noncomputable def nm (m e : Int) : Int × Int × Int := (sM m, e + tz m, intBits (sM m))
/-- rounded to so many bits, and made odd -/
@[irreducible] noncomputable def rn (wy : Way) (man exp prec : Int) : Int × Int × Int :=
  if 0 < (intBits man : Int) - prec then nm (rsh wy man ((intBits man : Int) - prec)) (exp + ((intBits man : Int) - prec)) else nm man exp
def Is3 (r : Int × Int × Int) (a b c : Int) : Prop := a = r.1 ∧ b = r.2.1 ∧ c = r.2.2
section
variable {wy : Way} {man exp prec m' : Int} (hm : 0 < man) (hp : 1 ≤ prec)
theorem odd_bitAnd {m : Int} (h : 0 < m) (ho : Builtin.bitAnd m 1 ≠ 0) : sM m = m ∧ tz m = 0 := sM_odd h (by rw [bitAnd_one (Int.le_of_lt h)] at ho; omega)
theorem sM_def (m : Int) : m.fdiv (2 ^ ((tz m : Nat) : Int).toNat) = sM m := by unfold sM; rw [Int.toNat_natCast]
include hm hp in
theorem endR_odd1 (hn : 0 < (intBits man : Int) - prec) (e : m' = rsh wy man ((intBits man : Int) - prec)) (ho : Builtin.bitAnd m' 1 ≠ 0) (h1 : m' = 1) : Is3 (rn wy man exp prec) m' (exp + ((intBits man : Int) - prec)) 1 := by
  have hr := rsh_range wy hm hp hn
  have h0 := rsh_pos wy hm hp hn
  rw [← e] at hr h0
  have ⟨k1, k2⟩ := odd_bitAnd h0 ho
  have hb := bits_end hp hr.1 hr.2
  unfold rn Is3 nm
  rw [if_pos hn, ← e, k1, k2, h1]
  exact ⟨rfl, by simp, rfl⟩
include hm hp in
theorem endR_odd (hn : 0 < (intBits man : Int) - prec) (e : m' = rsh wy man ((intBits man : Int) - prec)) (ho : Builtin.bitAnd m' 1 ≠ 0) (h1 : m' ≠ 1) : Is3 (rn wy man exp prec) m' (exp + ((intBits man : Int) - prec)) prec := by
  have hr := rsh_range wy hm hp hn
  have h0 := rsh_pos wy hm hp hn
  rw [← e] at hr h0
  have ⟨k1, k2⟩ := odd_bitAnd h0 ho
  have hb := (bits_end hp hr.1 hr.2).2 (by rw [k1]; exact h1)
  unfold rn Is3 nm
  rw [if_pos hn, ← e, ← hb, k1, k2]
  exact ⟨rfl, by simp, by simp⟩
theorem endR_even1 (hn : 0 < (intBits man : Int) - prec) (e : m' = rsh wy man ((intBits man : Int) - prec)) (h1 : m'.fdiv (2 ^ ((tz m' : Nat) : Int).toNat) = 1) : Is3 (rn wy man exp prec) (m'.fdiv (2 ^ ((tz m' : Nat) : Int).toNat)) (exp + ((intBits man : Int) - prec) + tz m') 1 := by
  rw [sM_def] at h1 ⊢
  unfold rn Is3 nm
  rw [if_pos hn, ← e, h1]
  exact ⟨rfl, rfl, rfl⟩
include hm hp in
theorem endR_even (hn : 0 < (intBits man : Int) - prec) (e : m' = rsh wy man ((intBits man : Int) - prec)) (h1 : m'.fdiv (2 ^ ((tz m' : Nat) : Int).toNat) ≠ 1) : Is3 (rn wy man exp prec) (m'.fdiv (2 ^ ((tz m' : Nat) : Int).toNat)) (exp + ((intBits man : Int) - prec) + tz m') (prec - tz m') := by
  have hr := rsh_range wy hm hp hn
  rw [← e] at hr
  rw [sM_def] at h1 ⊢
  have hb := (bits_end hp hr.1 hr.2).2 h1
  unfold rn Is3 nm
  rw [if_pos hn, ← e, ← hb]
  exact ⟨rfl, rfl, rfl⟩
include hm in
theorem endN_odd1 (hn : ¬ 0 < (intBits man : Int) - prec) (ho : Builtin.bitAnd man 1 ≠ 0) (h1 : man = 1) : Is3 (rn wy man exp prec) man exp 1 := by
  have ⟨k1, k2⟩ := odd_bitAnd hm ho
  unfold rn Is3 nm
  rw [if_neg hn, k1, k2, h1]
  exact ⟨rfl, by simp, rfl⟩
include hm in
theorem endN_odd (hn : ¬ 0 < (intBits man : Int) - prec) (ho : Builtin.bitAnd man 1 ≠ 0) : Is3 (rn wy man exp prec) man exp (intBits man) := by
  have ⟨k1, k2⟩ := odd_bitAnd hm ho
  unfold rn Is3 nm
  rw [if_neg hn, k1, k2]
  exact ⟨rfl, by simp, rfl⟩
theorem endN_even1 (hn : ¬ 0 < (intBits man : Int) - prec) (h1 : man.fdiv (2 ^ ((tz man : Nat) : Int).toNat) = 1) : Is3 (rn wy man exp prec) (man.fdiv (2 ^ ((tz man : Nat) : Int).toNat)) (exp + tz man) 1 := by
  rw [sM_def] at h1 ⊢
  unfold rn Is3 nm
  rw [if_neg hn, h1]
  exact ⟨rfl, rfl, rfl⟩
include hm in
theorem endN_even (hn : ¬ 0 < (intBits man : Int) - prec) : Is3 (rn wy man exp prec) (man.fdiv (2 ^ ((tz man : Nat) : Int).toNat)) (exp + tz man) (intBits man - tz man) := by
  rw [sM_def]
  have hb := bits_odd hm
  unfold rn Is3 nm
  rw [if_neg hn]
  exact ⟨rfl, rfl, by dsimp only; omega⟩
end
end Mine

namespace Mine
set_option maxRecDepth 100000 in
set_option maxHeartbeats 8000000 in
open_top hd for PySem.Challenge.rw_bw0027_01
end Mine

namespace Mine
open PySem PyProof.Rows
/-- no exception is being handled, or one without a context -/
def Calm (hx : Option Value) (h : Heap) : Prop := hx = none ∨ ∃ e o vs, hx = some (.ref e) ∧ h.get? e = some o ∧ o.data = .fields vs ∧ vs[2]? = some Value.none
theorem Calm.keeps {hx : Option Value} {h h' : Heap} (C : Calm hx h) (k : ∀ e, hx = some (.ref e) → ∀ o, h.get? e = some o → h'.get? e = some o) : Calm hx h' := by
  rcases C with h | ⟨e, o, vs, h1, h2, h3, h4⟩
  · exact .inl h
  · exact .inr ⟨e, o, vs, h1, k e h1 o h2, h3, h4⟩
theorem Calm.push {hx : Option Value} {h : Heap} (C : Calm hx h) (o : Obj) : Calm hx (h.push o) := C.keeps fun _ _ _ q => Heap.get?_push_of_some _ q
theorem Calm.ext {hx : Option Value} {h h' : Heap} {a : Addr} (C : Calm hx h) (ha : ∀ e, hx = some (.ref e) → e ≠ a) (k : Heap.ExtBut a h h') : Calm hx h' := C.keeps fun e he o q => k e o (ha e he) q
theorem entry_unchain : entryFor table "proto.unchain" = some Builtin.«proto.unchain» := entryFor_of_tree (by kernel_rfl)
section
variable {prog : Program} {w : World} {A : Around} {E : Value → Shared → Prop} {s : Shared}
theorem unchain_calm {v : Value} {e : Addr} {o : Obj} {vs : Array Value} {Q : Value → Shared → Prop} (ho : s.heap.get? e = some o) (hd : o.data = .fields vs) (h2 : vs[2]? = some Value.none) (h : Q .none s) :
    wpAny (model prog w) A (runValue (.builtin "proto.unchain" ⟨[v, .ref e, .ref e, .bool false], []⟩)) Q E s := by
  refine runValue_entry entry_unchain ?_
  show wpAny _ _ (field (.ref e) 2 >>= _) _ _ s
  refine wpAny_bind (wpAny_field ho hd h2 ?_)
  exact wpAny_pure ⟨_, rfl, h⟩
/-- a new exception is raised: it may get a context -/
theorem raise_calm {α : Type} {Q : α → Shared → Prop} {a : Addr} {o : Obj} {vs : Array Value} (C : Calm A.handled s.heap) (hne : ∀ e, A.handled = some (.ref e) → e ≠ a) (ho : s.heap.get? a = some o) (hd : o.data = .fields vs) (hs : 2 < vs.size)
    (h : ∀ h', Heap.SameBut a s.heap h' → (∃ o', h'.get? a = some o' ∧ o'.cls = o.cls) → E (.ref a) { s with heap := h' }) : wpAny (model prog w) A (raiseNew (.ref a) : Sem α) Q E s := by
  unfold raiseNew
  refine wpAny_bind (wpAny_handled ?_)
  rcases C with hh | ⟨e, oe, ve, h1, h2, h3, h4⟩
  · rw [hh]
    exact wpAny_bind (wpAny_pure (wpAny_throw (h _ (Heap.SameBut.refl ..) ⟨o, ho, rfl⟩)))
  · rw [h1]
    have hea : e ≠ a := hne e h1
    show wpAny _ _ (if (Value.ref e != Value.ref a) = true then _ else _) _ _ s
    rw [if_pos (by simp [hea])]
    refine wpAny_bind (wpAny_holding (unchain_calm h2 h3 h4 ?_))
    refine wpAny_bind (m := setField (.ref a) 2 (.ref e)) (wpAny_setField ho hd hs ?_)
    exact wpAny_throw (h _ (Heap.SameBut.update ..) ⟨_, Heap.get?_update_self _ ho (Obj.isFreed_of_fields (Obj.data_mapFields hd _)), Obj.cls_mapFields ..⟩)
theorem handled_in1 : A.in1.handled = A.handled := rfl
/-- the end of an iterator: a StopIteration that is caught at once -/
theorem stop_calm {α : Type} {Q : α → Shared → Prop} (C : Calm A.handled s.heap)
    (h : ∀ h' e, (∀ b o, s.heap.get? b = some o → h'.get? b = some o) → (∃ o', h'.get? e = some o' ∧ o'.cls = .type "StopIteration") → E (.ref e) { s with heap := h' }) :
    wpAny (model prog w) A (newExc (.type "StopIteration") [] >>= fun x => (raiseNew x : Sem α)) Q E s := by
  refine wpAny_bind ?_
  simp only [newExc, newTuple]
  refine wpAny_bind (wpAny_newObj_type ?_ (by size_fits))
  refine wpAny_bind (m := firstArgMember _ _) (wpAny_of_eq (a := Value.none) (by first | rfl | (simp only [firstArgMember]; rfl)) ?_)
  refine wpAny_newObj_type ?_ (by size_fits)
  refine raise_calm ((C.push _).push _) (fun e he => ?_) (Heap.get?_push_size _ rfl) rfl (by simp; omega) fun h' hs ⟨o', ho', hc⟩ => h h' _ (fun b o q => ?_) ⟨o', ho', hc⟩
  · rcases C with hh | ⟨e', oe, ve, h1, h2, _⟩
    · rw [hh] at he; cases he
    · rw [h1] at he
      cases he
      have := Heap.lt_size h2
      rw [Heap.size_push]
      exact Nat.ne_of_lt (Nat.lt_succ_of_lt this)
  · have := Heap.lt_size q
    rw [hs.2 b (by rw [Heap.size_push]; exact Nat.ne_of_lt (Nat.lt_succ_of_lt this))]
    exact Heap.get?_push_of_some _ (Heap.get?_push_of_some _ q)
theorem tuple_end_calm {it t : Addr} {i : Nat} {items} {Q : Option Value → Shared → Prop} (C : Calm A.handled s.heap) (hc : ∀ e, A.handled = some (.ref e) → e ≠ it)
    (hit : s.heap.IsTupleIter it t i) (ht : s.heap.IsTuple t items) (hx : items[i]? = none)
    (hQ : ∀ h', Heap.ExtBut it s.heap h' → Q none { s with heap := h' }) : wpAny (model prog w) A (pyNext (.ref it)) Q E s := by
  obtain ⟨o, ho, hcl, hd⟩ := id hit
  obtain ⟨ol, hol, _, nl, hdl⟩ := ht
  unfold pyNext
  refine wpAny_bind (wpAny_attempt (wpAny_callSpecial?_slot (name := Str.ofString "__next__") hit.typeIs F.slot_tuple_iterator_next (wpAny_call_entry F.slot_tuple_iterator_next hit.typeIs F.entry_tuple_iterator_next ?_ (F.args_tuple_iterator_next_1 _))))
  show wpAny _ _ (field (.ref it) 0 >>= _) _ _ s
  refine wpAny_bind (wpAny_field ho hd (x := .ref t) rfl ?_)
  show wpAny _ _ (if (Value.ref t == Value.none) = true then _ else _) _ _ s
  rw [if_neg (show ¬ ((Value.ref t == Value.none) = true) from Bool.false_ne_true)]
  show wpAny _ _ (field (.ref it) 1 >>= _) _ _ s
  refine wpAny_bind (wpAny_field ho hd (x := .int i 0) rfl (wpAny_bind (m := seqItems? (.ref t)) (wpAny_seqItems hol hdl ?_)))
  simp only [Int.toNat_natCast, hx]
  refine wpAny_bind (wpAny_rule (wpAny_bind (wpAny_setField ho hd (by simp) ?_)))
  have hk : Heap.ExtBut it s.heap (s.heap.update it (Obj.mapFields (·.setIfInBounds 0 Value.none))) := (Heap.SameBut.update ..).extBut
  refine stop_calm (A := A.in1) (C.ext hc hk) fun h' e k ⟨o', he, hc'⟩ => ?_
  refine wpAny_bind (wpAny_isInstance (T := "StopIteration") (b := true) ⟨_, he, hc'⟩ isSubtype_stop ?_)
  exact wpAny_pure (hQ _ fun b o hb q => k b o (hk b o hb q))
theorem range_end_calm {it : Addr} {x left step : Int} {Q : Option Value → Shared → Prop} (C : Calm A.handled s.heap) (hit : IsRangeIter s.heap it x left step) (hleft : left ≤ 0)
    (hQ : ∀ h', Heap.ExtBut it s.heap h' → Q none { s with heap := h' }) : wpAny (model prog w) A (pyNext (.ref it)) Q E s := by
  have hT : s.TypeIs (.ref it) "range_iterator" := ⟨_, hit, rfl⟩
  unfold pyNext
  refine wpAny_bind (wpAny_attempt (wpAny_callSpecial?_slot (name := Str.ofString "__next__") hT F.slot_range_iterator_next (wpAny_call_entry F.slot_range_iterator_next hT F.entry_range_iterator_next ?_ (F.args_range_iterator_next_1 _))))
  show wpAny _ _ (field (.ref it) 0 >>= _) _ _ s
  refine wpAny_bind (wpAny_field hit rfl (x := rawInt x) rfl ?_)
  show wpAny _ _ (field (.ref it) 1 >>= _) _ _ s
  refine wpAny_bind (wpAny_field hit rfl (x := rawInt left) rfl ?_)
  show wpAny _ _ (field (.ref it) 2 >>= _) _ _ s
  refine wpAny_bind (wpAny_field hit rfl (x := rawInt step) rfl ?_)
  show wpAny _ _ (if left ≤ 0 then _ else _) _ _ s
  rw [if_pos hleft]
  refine wpAny_bind (wpAny_rule (wpAny_bind ?_))
  refine stop_calm (A := A.in1) C fun h' e k ⟨o', he, hc'⟩ => ?_
  refine wpAny_bind (wpAny_isInstance (T := "StopIteration") (b := true) ⟨_, he, hc'⟩ isSubtype_stop ?_)
  exact wpAny_pure (hQ _ fun b o _ q => k b o q)
end
end Mine

namespace Mine
open PySem PyProof.Rows
def exA : Option Value → List Addr
  | some (.ref e) => [e]
  | _ => []
theorem exA_mem {hx : Option Value} {e : Addr} (h : hx = some (.ref e)) : e ∈ exA hx := by subst h; exact .head _
theorem Calm.frame {hx : Option Value} {h h' : Heap} {fp : List Addr} (C : Calm hx h) (k : ∀ b ∈ fp ++ exA hx, ∀ o, h.get? b = some o → h'.get? b = some o) : Calm hx h' :=
  C.keeps fun e he o q => k e (List.mem_append_right _ (exA_mem he)) o q
section
variable {prog : Program} {w : World} {A : Around} {E : Value → Shared → Prop} {s : Shared}
theorem walks_tuple (I ax : Addr) (hne : ax ≠ I) (hI : ∀ e, A.handled = some (.ref e) → e ≠ I) (items : Array Value) :
    Walks prog w A I ([I, ax] ++ exA A.handled) [I] items.size (fun i v => items[i]? = some v) (fun i h => h.IsTupleIter I ax i ∧ h.IsTuple ax items ∧ Calm A.handled h) where
  sub := fun b hb => by simp at hb; simp [hb]
  frame := fun _ _ _ st hk => ⟨st.1.at fun o e => hk I (by simp) o e, st.2.1.at fun o e => hk ax (by simp) o e, st.2.2.frame hk⟩
  item := fun i s Q E hi st hQ => by
    refine wpAny_pyNext_tuple_item st.1 st.2.1 (x := items[i]) (by simp [hi]) fun h' hit' hs' => ?_
    exact hQ _ h' s.toks (by simp [hi]) ⟨hit', st.2.1.extBut hs'.extBut hne, st.2.2.ext hI hs'.extBut⟩ fun b o hb e => hs'.extBut b o (fun h => hb (by simp [h])) e
  done := fun s Q E st hQ => tuple_end_calm st.2.2 hI st.1 st.2.1 (by simp) fun h' he' => hQ h' s.toks fun b o hb e => he' b o (fun h => hb (by simp [h])) e
  self := fun _ _ _ _ st hQ => wpAny_pyIter_tupleiter st.1 hQ
theorem walks_range (I : Addr) (hI : ∀ e, A.handled = some (.ref e) → e ≠ I) (a c : Int) (n : Nat) :
    Walks prog w A I ([I] ++ exA A.handled) [I] n (fun i v => ∃ t, v = .int (a + i * c) t) (fun i h => IsRangeIter h I (a + (i : Nat) * c) ((n : Int) - (i : Nat)) c ∧ Calm A.handled h) where
  sub := fun b hb => by simp at hb; simp [hb]
  frame := fun _ _ _ st hk => ⟨hk I (by simp) _ st.1, st.2.frame hk⟩
  item := fun i s Q E hi st hQ => by
    refine wpAny_pyNext_range_item st.1 (by omega) fun h' hit' hs' => ?_
    refine hQ _ h' _ ⟨_, rfl⟩ ⟨?_, st.2.ext hI hs'.extBut⟩ fun b o hb e => hs'.extBut b o (fun h => hb (by simp [h])) e
    have e1 : a + ((i + 1 : Nat) : Int) * c = a + (i : Int) * c + c := by push_cast; rw [Int.add_mul, Int.one_mul, Int.add_assoc]
    have e2 : (n : Int) - ((i + 1 : Nat) : Int) = (n : Int) - (i : Int) - 1 := by push_cast; omega
    rw [e1, e2]; exact hit'
  done := fun s Q E st hQ => range_end_calm st.2 st.1 (by omega) fun h' he' => hQ h' s.toks fun b o hb e => he' b o (fun h => hb (by simp [h])) e
  self := fun _ _ _ _ st hQ => wpAny_pyIter_rangeiter st.1 hQ
/-- two ints, the lesser and the greater -/
theorem two_ints_calm {hx : Option Value} {a b : Int} {t u : Tok} (C : Calm hx s.heap) {op : CmpOp} {bt : Nat → Nat → Bool} (hA : A.handled = hx)
    (hcmp : CmpOf prog w A.in1 op (fun i v => (intItems #[(a, t), (b, u)])[i]? = some v) bt) {Q : Value → Shared → Prop}
    (h : ∀ v h' tk, (intItems #[(a, t), (b, u)])[argBest bt 1]? = some v → (∀ c o, s.heap.get? c = some o → h'.get? c = some o) → Q v { s with heap := h', toks := tk }) :
    wpAny (model prog w) A.in1 (pyIter (.ref s.heap.objs.size)) (fun it s₂ => ∃ I fp wr n P St bt, it = .ref I ∧ Walks prog w A.in1 I fp wr n P St ∧ St 0 s₂.heap ∧ (∀ b ∈ fp, b < s₂.heap.objs.size) ∧ 0 < n ∧ CmpOf prog w A.in1 op P bt ∧
      ∀ v h' tk, P (argBest bt (n - 1)) v → (∀ b o, b ∉ wr → s₂.heap.get? b = some o → h'.get? b = some o) → Q v { s₂ with heap := h', toks := tk }) E
      { s with heap := s.heap.push { cls := .type "tuple", data := .seq #[.int a t, .int b u] } } := by
  subst hA
  have hT : (s.heap.push { cls := .type "tuple", data := .seq #[.int a t, .int b u] }).IsTuple s.heap.objs.size (intItems #[(a, t), (b, u)]) := ⟨_, Heap.get?_push_size _ rfl, rfl, 0, by simp [intItems]⟩
  have hsz : (s.heap.push { cls := .type "tuple", data := .seq #[.int a t, .int b u] }).objs.size = s.heap.objs.size + 1 := Heap.size_push ..
  have hlt : ∀ e, A.handled = some (.ref e) → e < s.heap.objs.size := fun e he => by
    rcases C with hh | ⟨e', oe, ve, h1, h2, _⟩
    · rw [hh] at he; cases he
    · rw [h1] at he; cases he; exact Heap.lt_size h2
  refine wpAny_pyIter_tuple hT ?_
  refine ⟨_, _, _, _, _, _, bt, rfl, walks_tuple (A := A.in1) _ s.heap.objs.size (by rw [hsz]; exact Nat.ne_of_lt (Nat.lt_succ_self _)) (fun e he => ?_) (intItems #[(a, t), (b, u)]),
    ⟨⟨_, Heap.get?_push_size _ rfl, rfl, rfl⟩, hT.push _, (C.push _).push _⟩, fun c hc => ?_, by simp [intItems], hcmp, fun v h' tk hP hk => ?_⟩
  · rw [hsz]
    exact Nat.ne_of_lt (Nat.lt_succ_of_lt (hlt e he))
  · show c < ((s.heap.push _).push _).objs.size
    rw [Heap.size_push, hsz]
    rcases List.mem_append.mp hc with hc | hc
    · rcases List.mem_cons.mp hc with rfl | hc
      · rw [hsz]; exact Nat.lt_succ_self _
      · rcases List.mem_cons.mp hc with rfl | hc
        · exact Nat.lt_succ_of_lt (Nat.lt_succ_self _)
        · cases hc
    · have hc' : c ∈ exA A.handled := hc
      have : A.handled = some (.ref c) := by
        revert hc'
        rcases hq : A.handled with _ | v
        · intro h; cases h
        · cases v <;> intro h <;> first | (cases h; done) | skip
          rcases List.mem_cons.mp h with rfl | h
          · rfl
          · cases h
      exact Nat.lt_succ_of_lt (Nat.lt_succ_of_lt (hlt c this))
  · refine h v h' tk (by simpa [intItems] using hP) fun c o e => ?_
    refine hk c o (fun hm => ?_) (Heap.get?_push_of_some _ (Heap.get?_push_of_some _ e))
    rcases List.mem_cons.mp hm with e1 | hm
    · have := Heap.lt_size e; rw [e1, hsz] at this; exact Nat.lt_irrefl _ (Nat.lt_of_succ_lt this)
    · cases hm
theorem min_calm {hx : Option Value} {a b : Int} {t u : Tok} {h₀ : Heap} {L : Addr} {m : Str → Option Value} {news : List (Addr × Obj)} {Q : Value → Shared → Prop} (hA : A.handled = hx) (C : Calm hx s.heap) (F : Fr h₀ L s.heap m) (N : News h₀ L s.heap news)
    (h : ∀ h' tk, Fr h₀ L h' m → News h₀ L h' news → Q (.int (if b < a then b else a) (if b < a then u else t)) { s with heap := h', toks := tk }) :
    wpAny (model prog w) A (call (.builtin "min") [.int a t, .int b u]) Q E s := by
  refine call_min_two (two_ints_calm C hA (CmpOf.ints_lt (numAt #[(a, t), (b, u)]) (fun _ _ => intItems_at)) fun v h' tk hP hk => ?_)
  have := h h' tk (F.grownK hk) (N.grown hk)
  by_cases c : b < a
  · have e : argBest (fun i j => decide (numAt #[(a, t), (b, u)] i < numAt #[(a, t), (b, u)] j)) 1 = 1 := by simp [argBest, numAt, c]
    rw [e] at hP
    have hv : Value.int b u = v := by simpa [intItems] using hP
    rw [if_pos c, if_pos c] at this
    rw [← hv]; exact this
  · have e : argBest (fun i j => decide (numAt #[(a, t), (b, u)] i < numAt #[(a, t), (b, u)] j)) 1 = 0 := by simp [argBest, numAt, c]
    rw [e] at hP
    have hv : Value.int a t = v := by simpa [intItems] using hP
    rw [if_neg c, if_neg c] at this
    rw [← hv]; exact this
theorem max_calm {hx : Option Value} {a b : Int} {t u : Tok} {h₀ : Heap} {L : Addr} {m : Str → Option Value} {news : List (Addr × Obj)} {Q : Value → Shared → Prop} (hA : A.handled = hx) (C : Calm hx s.heap) (F : Fr h₀ L s.heap m) (N : News h₀ L s.heap news)
    (h : ∀ h' tk, Fr h₀ L h' m → News h₀ L h' news → Q (.int (if b > a then b else a) (if b > a then u else t)) { s with heap := h', toks := tk }) :
    wpAny (model prog w) A (call (.builtin "max") [.int a t, .int b u]) Q E s := by
  refine call_max_two (two_ints_calm C hA (CmpOf.ints_gt (numAt #[(a, t), (b, u)]) (fun _ _ => intItems_at)) fun v h' tk hP hk => ?_)
  have := h h' tk (F.grownK hk) (N.grown hk)
  by_cases c : b > a
  · have e : argBest (fun i j => decide (numAt #[(a, t), (b, u)] i > numAt #[(a, t), (b, u)] j)) 1 = 1 := by simp [argBest, numAt, c]
    rw [e] at hP
    have hv : Value.int b u = v := by simpa [intItems] using hP
    rw [if_pos c, if_pos c] at this
    rw [← hv]; exact this
  · have e : argBest (fun i j => decide (numAt #[(a, t), (b, u)] i > numAt #[(a, t), (b, u)] j)) 1 = 0 := by simp [argBest, numAt, c]
    rw [e] at hP
    have hv : Value.int a t = v := by simpa [intItems] using hP
    rw [if_neg c, if_neg c] at this
    rw [← hv]; exact this
/-- a tuple is unpacked -/
theorem unpack_calm {hx : Option Value} {t : Addr} {items : Array Value} {n : Nat} {h₀ : Heap} {L : Addr} {m : Str → Option Value} {news : List (Addr × Obj)} {Q : List Value → Shared → Prop} (hA : A.handled = hx) (C : Calm hx s.heap) (Fh : Fr h₀ L s.heap m) (N : News h₀ L s.heap news) (ht : IsTup s.heap t items)
    (hn : n = items.size) (h : ∀ h', Fr h₀ L h' m → News h₀ L h' news → Q items.toList { s with heap := h' }) : wpAny (model prog w) A (unpackItems (.ref t) n none) Q E s := by
  subst hn; subst hA
  have ht : s.heap.IsTuple t items := ht
  have hlt : t ≠ s.heap.objs.size := by obtain ⟨o, ho, _⟩ := ht; exact Nat.ne_of_lt (Heap.lt_size ho)
  have hel : ∀ e, A.handled = some (.ref e) → e ≠ s.heap.objs.size := fun e he => by
    rcases C with hh | ⟨e', oe, ve, h1, h2, _⟩
    · rw [hh] at he; cases he
    · rw [h1] at he; cases he; exact Nat.ne_of_lt (Heap.lt_size h2)
  unfold unpackItems notIterableAtAll
  refine wpAny_bind (wpAny_bind (wpAny_specialOf ht.typeIs F.slot_tuple_iter.lookup (wpAny_pure ?_)))
  simp only [Bool.false_eq_true, if_false]
  refine wpAny_bind (wpAny_holding (wpAny_pyIter_tuple ht ?_))
  refine wpAny_bind (wpAny_holding (wpAny_draw_tuple hlt items.size 0 _ _ ⟨_, Heap.get?_push_size _ rfl, rfl, rfl⟩ (ht.push _) (by omega) fun h₁ hit₁ hs₁ => ?_))
  have hall : List.take items.size (List.drop 0 items.toList) = items.toList := by
    rw [List.drop_zero]; exact List.take_of_length_le (by simp)
  rw [hall, if_neg (by simp)]
  refine wpAny_bind (wpAny_holding (tuple_end_calm ((C.push _).ext hel hs₁.extBut) hel hit₁ ((ht.push _).extBut hs₁.extBut hlt) (by simp) fun h₂ he₂ => ?_))
  simp only [Option.isSome_none, Bool.false_eq_true, if_false]
  have hE : Heap.ExtBut s.heap.objs.size s.heap h₂ := fun b o hb e => he₂ b o hb (hs₁.extBut b o hb (Heap.get?_push_of_some _ e))
  exact wpAny_pure (h h₂ (Fh.extBut hE (Nat.le_refl _)) (N.extBut hE (Nat.le_refl _)))
theorem assign_calm {hx : Option Value} {env : Env} {elts : List PySem.Expr} {k} {pos : Pos} {t : Addr} {items : Array Value} {h₀ : Heap} {L : Addr} {m : Str → Option Value} {news : List (Addr × Obj)} {Q : Unit → Shared → Prop} (hA : A.handled = hx) (C : Calm hx s.heap) (Fh : Fr h₀ L s.heap m) (N : News h₀ L s.heap news) (ht : IsTup s.heap t items)
    (hn : (assignEach elts env).length = items.size) (hstar : (assignEach elts env).findIdx? (·.1) = none)
    (h : ∀ h', Fr h₀ L h' m → News h₀ L h' news → wpAny (model prog w) A (assignInOrder ((assignEach elts env).map (·.2)) items.toList) Q E { s with heap := h' }) :
    wpAny (model prog w) A (assign (.Tuple elts k pos) env (.ref t)) Q E s := by
  rw [assign_Tuple]
  refine wpAny_bind (wpAny_standAt ?_)
  unfold unpack
  rw [hstar]
  exact wpAny_bind (wpAny_holding (unpack_calm hA C Fh N ht hn h))
/-- the same of the ledger -/
def CalmN (hx : Option Value) (news : List (Addr × Obj)) : Prop := hx = none ∨ ∃ e o vs, hx = some (.ref e) ∧ (e, o) ∈ news ∧ o.data = .fields vs ∧ vs[2]? = some Value.none
theorem CalmN.sub {hx : Option Value} {news news' : List (Addr × Obj)} (C : CalmN hx news) (hs : ∀ p ∈ news, p ∈ news') : CalmN hx news' := by
  rcases C with h | ⟨e, o, vs, h1, h2, h3⟩
  · exact .inl h
  · exact .inr ⟨e, o, vs, h1, hs _ h2, h3⟩
theorem CalmN.at {hx : Option Value} {news news' : List (Addr × Obj)} {h₀ h : Heap} {L : Addr} (C : CalmN hx news) (N : News h₀ L h news') (hs : ∀ p ∈ news, p ∈ news') : Calm hx h := by
  rcases C.sub hs with q | ⟨e, o, vs, h1, h2, h3⟩
  · exact .inl q
  · exact .inr ⟨e, o, vs, h1, (N _ h2).1, h3⟩
end
section
variable {M : Model} {A : Around} {E : Value → Shared → Prop} {s : Shared} {env : Env}
/-- an assert that holds -/
theorem assert_holds {test : PySem.Expr} {pos : Pos} {Q : Flow → Shared → Prop}
    (h : wpAny M A (isTrue test env (eval test env)) (fun b s₁ => if b = true then Q .next s₁ else False) E s) : wpAny M A (exec (.Assert test none pos) env) Q E s := by
  rw [arm_exec_Assert]
  refine wpAny_bind (wpAny_standAt (wpAny_bind (wpAny_mono h (fun b s₁ h₁ => ?_) fun _ _ x => x)))
  cases b with
  | true => exact wpAny_pure (by simpa using h₁)
  | false => exact absurd h₁ (by simp)
end
end Mine

namespace Mine
theorem gen_toks {M : Model} {A : Around} {α : Type} {t : Sem α} {Q : α → Shared → Prop} {E : Value → Shared → Prop} {h : Heap} {g : Array GenState} {d : Drawn} {k : Nat} {o : OsState} (H : ∀ tk, wpAny M A t Q E ⟨h, g, d, tk, o⟩) : wpAny M A t Q E ⟨h, g, d, k, o⟩ := H k
end Mine

namespace Mine
/-- the frame of a def, whatever is handled -/
abbrev ktrX (hx : Option Value) (dp un : Nat) (gd : Option (List Code)) (cn : Str) (cs : Scope) (L a : Addr) (ccd : Value) (cl : List (Str × Addr)) (outer : List Env) : Around := { handled := hx, depth := dp, frames := some (envX cn cs L a ccd cl :: outer), guards := gd, units := un }
/-- a call of the def at `f` with `vs`, made from within a def, ends as `Ret` says -/
abbrev Ctr (w : World) (f : Addr) (dep : Nat) (news : List (Addr × Obj)) (vs : List Value)
    (Ret : (Heap → Addr → (Str → Option Value) → Shared → (Value → Shared → Prop) → Prop)) : Prop :=
  ∀ (pp : Program) (loose : List Str) (mean : ExcName → Option Value) (mg mb : Str → Option Value) (dp un : Nat) (gd : Option (List Code)) (cn : Str) (cs : Scope) (a : Addr) (ccd : Value) (cl : List (Str × Addr)) (outer : List Env) (A₀ : Around) (base h₀ : Heap) (L : Addr) (m : Str → Option Value) (s : Shared) (hx : Option Value) (Q E : Value → Shared → Prop),
    Below A₀ base outer h₀ → Fr h₀ L s.heap m → (hd.heap_39 w.params).In h₀ → News h₀ L s.heap news → Top pp loose mean mg mb h₀ → cs.kind = .function →
    dp + dep < recursionLimit → un + 8 * dep < cLine → CalmN hx news →
    Ret h₀ L m s Q →
    wpAny (model PySem.Challenge.rw_bw0027_01.row.prog w) (ktrX hx dp un gd cn cs L a ccd cl outer) (call (.ref f) vs) Q E s
theorem Ctr.use {w : World} {f : Addr} {dep : Nat} {news : List (Addr × Obj)} {vs : List Value} {Ret : (Heap → Addr → (Str → Option Value) → Shared → (Value → Shared → Prop) → Prop)} (C : Ctr w f dep news vs Ret)
    {pp : Program} {loose : List Str} {mean : ExcName → Option Value} {mg mb : Str → Option Value} {dp un : Nat} {gd : Option (List Code)} {cn : Str} {cs : Scope} {a : Addr} {ccd : Value} {cl : List (Str × Addr)} {outer : List Env} {A₀ : Around} {base h₀ : Heap} {L : Addr} {m : Str → Option Value} {s : Shared} {hx : Option Value} {Q E : Value → Shared → Prop}
    (B : Below A₀ base outer h₀) (F : Fr h₀ L s.heap m) (X : (hd.heap_39 w.params).In h₀) (N : News h₀ L s.heap news) (T : Top pp loose mean mg mb h₀) (hk : cs.kind = .function)
    (hd : dp + dep < recursionLimit) (hu : un + 8 * dep < cLine) (hc : CalmN hx news) (ret : Ret h₀ L m s Q) :
    wpAny (model PySem.Challenge.rw_bw0027_01.row.prog w) (ktrX hx dp un gd cn cs L a ccd cl outer) (call (.ref f) vs) Q E s := C _ _ _ _ _ _ _ _ _ _ _ _ _ _ _ _ _ _ _ _ _ _ _ B F X N T hk hd hu hc ret

abbrev RetI (news : List (Addr × Obj)) (r : Int) (h₀ : Heap) (L : Addr) (m : Str → Option Value) (s : Shared) (Q : Value → Shared → Prop) : Prop :=
  ∀ (t : Tok) (h' : Heap) (tk' : Nat), Fr h₀ L h' m → News h₀ L h' news → Q (.int r t) { s with heap := h', toks := tk' }
abbrev RetB (news : List (Addr × Obj)) (r : Bool) (h₀ : Heap) (L : Addr) (m : Str → Option Value) (s : Shared) (Q : Value → Shared → Prop) : Prop :=
  ∀ (h' : Heap) (tk' : Nat), Fr h₀ L h' m → News h₀ L h' news → Q (.bool r) { s with heap := h', toks := tk' }
/-- the text's own fzero -/
abbrev RetZ (news : List (Addr × Obj)) (h₀ : Heap) (L : Addr) (m : Str → Option Value) (s : Shared) (Q : Value → Shared → Prop) : Prop :=
  ∀ (h' : Heap) (tk' : Nat), Fr h₀ L h' m → News h₀ L h' news → Q (.ref 56) { s with heap := h', toks := tk' }
abbrev o2 (a b : Int) (t u : Tok) : Obj := { cls := .type "tuple", data := .seq #[.int a t, .int b u] }
abbrev o4 (a b c d : Int) (t u v x : Tok) : Obj := { cls := .type "tuple", data := .seq #[.int a t, .int b u, .int c v, .int d x] }
abbrev RetT2 (news : List (Addr × Obj)) (a b : Int) (h₀ : Heap) (L : Addr) (m : Str → Option Value) (s : Shared) (Q : Value → Shared → Prop) : Prop :=
  ∀ (D : Addr) (t u : Tok) (h' : Heap) (tk' : Nat), Fr h₀ L h' m → News h₀ L h' ((D, o2 a b t u) :: news) → Q (.ref D) { s with heap := h', toks := tk' }
abbrev RetT4 (news : List (Addr × Obj)) (a b c d : Int) (h₀ : Heap) (L : Addr) (m : Str → Option Value) (s : Shared) (Q : Value → Shared → Prop) : Prop :=
  ∀ (D : Addr) (t u v x : Tok) (h' : Heap) (tk' : Nat), Fr h₀ L h' m → News h₀ L h' ((D, o4 a b c d t u v x) :: news) → Q (.ref D) { s with heap := h', toks := tk' }

section
variable {news news' : List (Addr × Obj)} {h₀ h' : Heap} {L D : Addr} {m : Str → Option Value} {s : Shared} {Q : Value → Shared → Prop} {t u v z : Tok} {tk' : Nat} {o : Obj}
theorem news_sub (N : News h₀ L h' news') (hs : ∀ p ∈ news, p ∈ news') : News h₀ L h' news := fun p hp => N p (hs p hp)
theorem news_sub1 (N : News h₀ L h' news') (hm : (D, o) ∈ news') (hs : ∀ p ∈ news, p ∈ news') : News h₀ L h' ((D, o) :: news) := fun p hp => by
  rcases List.mem_cons.mp hp with rfl | hp
  · exact N _ hm
  · exact N p (hs p hp)
theorem retI_end {x y : Int} (hret : RetI news x h₀ L m s Q) (e : y = x) (F : Fr h₀ L h' m) (N : News h₀ L h' news') (hs : ∀ p ∈ news, p ∈ news') : Q (.int y t) { s with heap := h', toks := tk' } := by
  subst e; exact hret _ _ _ F (news_sub N hs)
theorem retB_end {x y : Bool} (hret : RetB news x h₀ L m s Q) (e : y = x) (F : Fr h₀ L h' m) (N : News h₀ L h' news') (hs : ∀ p ∈ news, p ∈ news') : Q (.bool y) { s with heap := h', toks := tk' } := by
  subst e; exact hret _ _ F (news_sub N hs)
theorem retZ_end (hret : RetZ news h₀ L m s Q) (F : Fr h₀ L h' m) (N : News h₀ L h' news') (hs : ∀ p ∈ news, p ∈ news') : Q (.ref 56) { s with heap := h', toks := tk' } :=
  hret _ _ F (news_sub N hs)
theorem retT2_end {a b a' b' : Int} (hret : RetT2 news a b h₀ L m s Q) (e1 : a' = a) (e2 : b' = b) (F : Fr h₀ L h' m) (N : News h₀ L h' news') (hm : (D, o2 a' b' t u) ∈ news') (hs : ∀ p ∈ news, p ∈ news') : Q (.ref D) { s with heap := h', toks := tk' } := by
  subst e1; subst e2; exact hret _ _ _ _ _ F (news_sub1 N hm hs)
theorem retT4_end {a b c d a' b' c' d' : Int} (hret : RetT4 news a b c d h₀ L m s Q) (e1 : a' = a) (e2 : b' = b) (e3 : c' = c) (e4 : d' = d) (F : Fr h₀ L h' m) (N : News h₀ L h' news') (hm : (D, o4 a' b' c' d' t u v z) ∈ news') (hs : ∀ p ∈ news, p ∈ news') : Q (.ref D) { s with heap := h', toks := tk' } := by
  subst e1; subst e2; subst e3; subst e4; exact hret _ _ _ _ _ _ _ F (news_sub1 N hm hs)
end
end Mine

namespace Mine
section
variable {news news' : List (Addr × Obj)} {h₀ h' : Heap} {L D : Addr} {m : Str → Option Value} {s : Shared} {Q : Value → Shared → Prop} {t u v z : Tok} {tk' : Nat}
theorem retN_end {g : Int} {r : Int × Int × Int} {a b c : Int} (hret : RetT4 news g r.1 r.2.1 r.2.2 h₀ L m s Q) (e : Is3 r a b c) (F : Fr h₀ L h' m) (N : News h₀ L h' news') (hm : (D, o4 g a b c t u v z) ∈ news') (hs : ∀ p ∈ news, p ∈ news') : Q (.ref D) { s with heap := h', toks := tk' } :=
  retT4_end hret rfl e.1 e.2.1 e.2.2 F N hm hs
end
end Mine

namespace Mine
open PySem.Builtin.Int (intBits)
@[irreducible] def band (a b : Int) : Int := Builtin.bitAnd a b
@[irreducible] def shr (a n : Int) : Int := a.fdiv (2 ^ n.toNat)
@[irreducible] def shl (a n : Int) : Int := a * 2 ^ n.toNat
theorem band_def (a b : Int) : band a b = Builtin.bitAnd a b := by unfold band; rfl
theorem shr_def (a n : Int) : shr a n = a.fdiv (2 ^ n.toNat) := by unfold shr; rfl
theorem shl_def (a n : Int) : shl a n = a * 2 ^ n.toNat := by unfold shl; rfl
section
variable {prog : Program} {w : World} {A : Around} {E : Value → Shared → Prop} {s : Shared} {a b n : Int} {t u : Tok} {Q : Value → Shared → Prop}
theorem and_w (h : Q (.int (band a b) s.toks) { s with toks := s.toks + 1 }) : wpAny (model prog w) A (binaryOp .BitAnd (.int a t) (.int b u)) Q E s :=
  PyProof.Rows.and_int (by rw [band_def] at h; exact h)
theorem rshift_w (hn : 0 ≤ n) (h : Q (.int (shr a n) s.toks) { s with toks := s.toks + 1 }) : wpAny (model prog w) A (binaryOp .RShift (.int a t) (.int n u)) Q E s :=
  PyProof.Rows.rshift_int hn (by rw [shr_def] at h; exact h)
theorem lshift_w (hn : 0 ≤ n) (hsz : (intBits a : Int) + n ≤ 2 ^ 27) (h : Q (.int (shl a n) s.toks) { s with toks := s.toks + 1 }) : wpAny (model prog w) A (binaryOp .LShift (.int a t) (.int n u)) Q E s :=
  PyProof.Rows.lshift_int hn hsz (by rw [shl_def] at h; exact h)
end
theorem rsh_w1 {man n : Int} (h1 : band (shr man (n - 1)) 1 ≠ 0) (h2 : band (shr man (n - 1)) 2 ≠ 0) : shr (shr man (n - 1)) 1 + 1 = rsh .n man n := by
  rw [band_def, shr_def] at h1 h2; rw [shr_def, shr_def]; exact rsh_n1 h1 h2
theorem rsh_w2 {man n : Int} (h1 : band (shr man (n - 1)) 1 ≠ 0) (h2 : band man (shl 1 (n - 1) - 1) ≠ 0) : shr (shr man (n - 1)) 1 + 1 = rsh .n man n := by
  rw [band_def, shr_def] at h1; rw [band_def, shl_def] at h2; rw [shr_def, shr_def]; exact rsh_n2 h1 h2
theorem rsh_w3 {man n : Int} (h1 : band (shr man (n - 1)) 1 = 0) : shr (shr man (n - 1)) 1 = rsh .n man n := by
  rw [band_def, shr_def] at h1; rw [shr_def, shr_def]; exact rsh_n3 h1
theorem rsh_w4 {man n : Int} (h1 : band (shr man (n - 1)) 2 = 0) (h2 : band man (shl 1 (n - 1) - 1) = 0) : shr (shr man (n - 1)) 1 = rsh .n man n := by
  rw [band_def, shr_def] at h1; rw [band_def, shl_def] at h2; rw [shr_def, shr_def]; exact rsh_n4 h1 h2
section
variable {wy : Way} {man exp prec m' : Int} (hm : 0 < man) (hp : 1 ≤ prec)
include hm hp in
theorem endW_odd1 (hn : 0 < (intBits man : Int) - prec) (e : m' = rsh wy man ((intBits man : Int) - prec)) (ho : band m' 1 ≠ 0) (h1 : m' = 1) : Is3 (rn wy man exp prec) m' (exp + ((intBits man : Int) - prec)) 1 := endR_odd1 hm hp hn e (by rw [band_def] at ho; exact ho) h1
include hm hp in
theorem endW_odd (hn : 0 < (intBits man : Int) - prec) (e : m' = rsh wy man ((intBits man : Int) - prec)) (ho : band m' 1 ≠ 0) (h1 : m' ≠ 1) : Is3 (rn wy man exp prec) m' (exp + ((intBits man : Int) - prec)) prec := endR_odd hm hp hn e (by rw [band_def] at ho; exact ho) h1
include hm in
theorem endX_odd1 (hn : ¬ 0 < (intBits man : Int) - prec) (ho : band man 1 ≠ 0) (h1 : man = 1) : Is3 (rn wy man exp prec) man exp 1 := endN_odd1 hm hn (by rw [band_def] at ho; exact ho) h1
include hm in
theorem endX_odd (hn : ¬ 0 < (intBits man : Int) - prec) (ho : band man 1 ≠ 0) : Is3 (rn wy man exp prec) man exp (intBits man) := endN_odd hm hn (by rw [band_def] at ho; exact ho)
end
end Mine

namespace Mine
open PySem.Builtin.Int (intBits)
@[irreducible] def mx (a b : Int) : Int := if b > a then b else a
theorem mx_def (a b : Int) : mx a b = if b > a then b else a := by unfold mx; rfl
section
variable {prog : Program} {w : World} {A : Around} {E : Value → Shared → Prop} {s : Shared} {a b n : Int} {t u : Tok} {Q : Value → Shared → Prop}
theorem ilshift_w (hn : 0 ≤ n) (hsz : (intBits a : Int) + n ≤ 2 ^ 27) (h : Q (.int (shl a n) s.toks) { s with toks := s.toks + 1 }) : wpAny (model prog w) A (inplaceOp .LShift (.int a t) (.int n u)) Q E s :=
  PyProof.Rows.ilshift_int hn hsz (by rw [shl_def] at h; exact h)
theorem max_wc {hx : Option Value} {h₀ : Heap} {L : Addr} {m : Str → Option Value} {news : List (Addr × Obj)} (hA : A.handled = hx) (C : Calm hx s.heap) (F : Fr h₀ L s.heap m) (N : News h₀ L s.heap news)
    (h : ∀ v h' tk, Fr h₀ L h' m → News h₀ L h' news → Q (.int (mx a b) v) { s with heap := h', toks := tk }) :
    wpAny (model prog w) A (call (.builtin "max") [.int a t, .int b u]) Q E s :=
  max_calm hA C F N fun h' tk F' N' => by have := h (if b > a then u else t) h' tk F' N'; rw [mx_def] at this; exact this
end
end Mine

namespace Mine
@[irreducible] def Way.isFD : Way → Bool
  | .f => true | .d => true | _ => false
theorem occ_fd (wy : Way) : (!(Builtin.Str.occurrences (Str.ofString "fd") wy.str 0 (Str.ofString "fd").length 1).isEmpty) = wy.isFD := by
  cases wy with
  | n => rw [Way.str_n]; unfold Way.isFD; decide +kernel
  | f => rw [Way.str_f]; unfold Way.isFD; decide +kernel
  | c => rw [Way.str_c]; unfold Way.isFD; decide +kernel
  | u => rw [Way.str_u]; unfold Way.isFD; decide +kernel
  | d => rw [Way.str_d]; unfold Way.isFD; decide +kernel
theorem in_fd {prog : Program} {w : World} {A : Around} {E : Value → Shared → Prop} {s : Shared} {wy : Way} {t u : Tok} {Q : Value → Shared → Prop} (h : Q (.bool wy.isFD) s) : wpAny (model prog w) A (compareOp .In (.str wy.str t) (.str (Str.ofString "fd") u)) Q E s :=
  PyProof.Rows.in_str (by rw [occ_fd]; exact h)
end Mine

section
local macro_rules | `(tactic| walk_at "binaryOp LShift int int") => `(tactic| (refine PyProof.Rows.lshift_int ?_ ?_ ?_; rotate_left 2))
local macro_rules | `(tactic| walk_at "binaryOp FloorDiv int int") => `(tactic| (refine PyProof.Rows.floordiv_int (Mine.ninv_pos (by assumption)) ?_ (Or.inl (PyProof.noPylong_of_log2 (Mine.ninv_log (by assumption))))))
local macro_rules | `(tactic| walk_at "binaryOp Mult int int") => `(tactic| (refine PyProof.Rows.mul_int ?_ ?_; (try dsimp only)))
local macro_rules | `(tactic| walk_at "binaryOp Pow int int") => `(tactic| (refine PyProof.Rows.pow_int ?_ ?_ ?_; rotate_left 2; (try dsimp only)))
local macro_rules | `(tactic| walk_at "execs cons") => `(tactic| (with_reducible (refine Mine.gen_toks ?_; intro tk; refine wpAny_execs_cons ?_); (try dsimp only)))
local macro_rules | `(tactic| walk_at "execs nil") => `(tactic| (with_reducible (refine Mine.gen_toks ?_; intro tk; refine wpAny_execs_nil ?_); (try dsimp only)))
local macro_rules | `(tactic| walk_at "unpackItems ref") => `(tactic| (k_here; k_dflt (refine' Mine.unpack_calm ?kA ?kC ?k1 ?k2 ?k3 ?k5 ?_; (case kA => exact rfl); (case k1 => k_asm); (case k2 => k_asm); (case kC => first | exact Mine.CalmN.at (by assumption) (by k_asm) (by first | exact fun _ h => h | exact fun _ h => .tail _ h | exact fun _ h => .tail _ (.tail _ h) | exact fun _ h => .tail _ (.tail _ (.tail _ h)) | exact fun _ h => .tail _ (.tail _ (.tail _ (.tail _ h))) | exact fun _ h => .tail _ (.tail _ (.tail _ (.tail _ (.tail _ h)))) | exact fun _ h => .tail _ (.tail _ (.tail _ (.tail _ (.tail _ (.tail _ h))))) | exact fun _ h => .tail _ (.tail _ (.tail _ (.tail _ (.tail _ (.tail _ (.tail _ h)))))) | exact fun _ h => .tail _ (.tail _ (.tail _ (.tail _ (.tail _ (.tail _ (.tail _ (.tail _ h))))))) | exact fun _ h => .tail _ (.tail _ (.tail _ (.tail _ (.tail _ (.tail _ (.tail _ (.tail _ (.tail _ h)))))))) | exact fun _ h => .tail _ (.tail _ (.tail _ (.tail _ (.tail _ (.tail _ (.tail _ (.tail _ (.tail _ (.tail _ h))))))))) | exact fun _ h => .tail _ (.tail _ (.tail _ (.tail _ (.tail _ (.tail _ (.tail _ (.tail _ (.tail _ (.tail _ (.tail _ h)))))))))) | exact fun _ h => .tail _ (.tail _ (.tail _ (.tail _ (.tail _ (.tail _ (.tail _ (.tail _ (.tail _ (.tail _ (.tail _ (.tail _ h))))))))))) | exact fun _ h => .tail _ (.tail _ (.tail _ (.tail _ (.tail _ (.tail _ (.tail _ (.tail _ (.tail _ (.tail _ (.tail _ (.tail _ (.tail _ h)))))))))))) | exact fun _ h => .tail _ (.tail _ (.tail _ (.tail _ (.tail _ (.tail _ (.tail _ (.tail _ (.tail _ (.tail _ (.tail _ (.tail _ (.tail _ (.tail _ h))))))))))))) | exact fun _ h => .tail _ (.tail _ (.tail _ (.tail _ (.tail _ (.tail _ (.tail _ (.tail _ (.tail _ (.tail _ (.tail _ (.tail _ (.tail _ (.tail _ (.tail _ h))))))))))))))) | exact Or.inl rfl); (case k3 => kun_tup); (case k5 => exact rfl); k_whole); intro h' F' N'; (try k_sweep)))
local macro_rules | `(tactic| walk_at "assign Tuple") => `(tactic| (k_here; (with_reducible show wpAny _ _ (assign (Expr.Tuple _ _ _) _ (Value.ref _)) _ _ _); k_dflt (refine' Mine.assign_calm ?kA ?kC ?k1 ?k2 ?k3 ?k5 ?k6 ?_; (case kA => exact rfl); (case k1 => k_asm); (case k2 => k_asm); (case kC => first | exact Mine.CalmN.at (by assumption) (by k_asm) (by first | exact fun _ h => h | exact fun _ h => .tail _ h | exact fun _ h => .tail _ (.tail _ h) | exact fun _ h => .tail _ (.tail _ (.tail _ h)) | exact fun _ h => .tail _ (.tail _ (.tail _ (.tail _ h))) | exact fun _ h => .tail _ (.tail _ (.tail _ (.tail _ (.tail _ h)))) | exact fun _ h => .tail _ (.tail _ (.tail _ (.tail _ (.tail _ (.tail _ h))))) | exact fun _ h => .tail _ (.tail _ (.tail _ (.tail _ (.tail _ (.tail _ (.tail _ h)))))) | exact fun _ h => .tail _ (.tail _ (.tail _ (.tail _ (.tail _ (.tail _ (.tail _ (.tail _ h))))))) | exact fun _ h => .tail _ (.tail _ (.tail _ (.tail _ (.tail _ (.tail _ (.tail _ (.tail _ (.tail _ h)))))))) | exact fun _ h => .tail _ (.tail _ (.tail _ (.tail _ (.tail _ (.tail _ (.tail _ (.tail _ (.tail _ (.tail _ h))))))))) | exact fun _ h => .tail _ (.tail _ (.tail _ (.tail _ (.tail _ (.tail _ (.tail _ (.tail _ (.tail _ (.tail _ (.tail _ h)))))))))) | exact fun _ h => .tail _ (.tail _ (.tail _ (.tail _ (.tail _ (.tail _ (.tail _ (.tail _ (.tail _ (.tail _ (.tail _ (.tail _ h))))))))))) | exact fun _ h => .tail _ (.tail _ (.tail _ (.tail _ (.tail _ (.tail _ (.tail _ (.tail _ (.tail _ (.tail _ (.tail _ (.tail _ (.tail _ h)))))))))))) | exact fun _ h => .tail _ (.tail _ (.tail _ (.tail _ (.tail _ (.tail _ (.tail _ (.tail _ (.tail _ (.tail _ (.tail _ (.tail _ (.tail _ (.tail _ h))))))))))))) | exact fun _ h => .tail _ (.tail _ (.tail _ (.tail _ (.tail _ (.tail _ (.tail _ (.tail _ (.tail _ (.tail _ (.tail _ (.tail _ (.tail _ (.tail _ (.tail _ h))))))))))))))) | exact Or.inl rfl); (case k3 => kun_tup); (case k5 => exact rfl); (case k6 => exact rfl); k_whole); intro h' F' N'; (try k_sweep)))
local macro_rules | `(tactic| walk_at "call builtin:min") => `(tactic| (k_here; (with_reducible show wpAny _ _ (call (Value.builtin _) [Value.int _ _, Value.int _ _]) _ _ _); k_dflt (refine' Mine.min_calm ?kA ?kC ?k1 ?k2 ?_; (case kA => exact rfl); (case k1 => k_asm); (case k2 => k_asm); (case kC => first | exact Mine.CalmN.at (by assumption) (by k_asm) (by first | exact fun _ h => h | exact fun _ h => .tail _ h | exact fun _ h => .tail _ (.tail _ h) | exact fun _ h => .tail _ (.tail _ (.tail _ h)) | exact fun _ h => .tail _ (.tail _ (.tail _ (.tail _ h))) | exact fun _ h => .tail _ (.tail _ (.tail _ (.tail _ (.tail _ h)))) | exact fun _ h => .tail _ (.tail _ (.tail _ (.tail _ (.tail _ (.tail _ h))))) | exact fun _ h => .tail _ (.tail _ (.tail _ (.tail _ (.tail _ (.tail _ (.tail _ h)))))) | exact fun _ h => .tail _ (.tail _ (.tail _ (.tail _ (.tail _ (.tail _ (.tail _ (.tail _ h))))))) | exact fun _ h => .tail _ (.tail _ (.tail _ (.tail _ (.tail _ (.tail _ (.tail _ (.tail _ (.tail _ h)))))))) | exact fun _ h => .tail _ (.tail _ (.tail _ (.tail _ (.tail _ (.tail _ (.tail _ (.tail _ (.tail _ (.tail _ h))))))))) | exact fun _ h => .tail _ (.tail _ (.tail _ (.tail _ (.tail _ (.tail _ (.tail _ (.tail _ (.tail _ (.tail _ (.tail _ h)))))))))) | exact fun _ h => .tail _ (.tail _ (.tail _ (.tail _ (.tail _ (.tail _ (.tail _ (.tail _ (.tail _ (.tail _ (.tail _ (.tail _ h))))))))))) | exact fun _ h => .tail _ (.tail _ (.tail _ (.tail _ (.tail _ (.tail _ (.tail _ (.tail _ (.tail _ (.tail _ (.tail _ (.tail _ (.tail _ h)))))))))))) | exact fun _ h => .tail _ (.tail _ (.tail _ (.tail _ (.tail _ (.tail _ (.tail _ (.tail _ (.tail _ (.tail _ (.tail _ (.tail _ (.tail _ (.tail _ h))))))))))))) | exact fun _ h => .tail _ (.tail _ (.tail _ (.tail _ (.tail _ (.tail _ (.tail _ (.tail _ (.tail _ (.tail _ (.tail _ (.tail _ (.tail _ (.tail _ (.tail _ h))))))))))))))) | exact Or.inl rfl); k_whole); intro h9 tk9 F9 N9; (try dsimp only)))
local macro_rules | `(tactic| walk_at "call builtin:max") => `(tactic| (k_here; (with_reducible show wpAny _ _ (call (Value.builtin _) [Value.int _ _, Value.int _ _]) _ _ _); k_dflt (refine' Mine.max_wc ?kA ?kC ?k1 ?k2 ?_; (case kA => exact rfl); (case k1 => k_asm); (case k2 => k_asm); (case kC => first | exact Mine.CalmN.at (by assumption) (by k_asm) (by first | exact fun _ h => h | exact fun _ h => .tail _ h | exact fun _ h => .tail _ (.tail _ h) | exact fun _ h => .tail _ (.tail _ (.tail _ h)) | exact fun _ h => .tail _ (.tail _ (.tail _ (.tail _ h))) | exact fun _ h => .tail _ (.tail _ (.tail _ (.tail _ (.tail _ h)))) | exact fun _ h => .tail _ (.tail _ (.tail _ (.tail _ (.tail _ (.tail _ h))))) | exact fun _ h => .tail _ (.tail _ (.tail _ (.tail _ (.tail _ (.tail _ (.tail _ h)))))) | exact fun _ h => .tail _ (.tail _ (.tail _ (.tail _ (.tail _ (.tail _ (.tail _ (.tail _ h))))))) | exact fun _ h => .tail _ (.tail _ (.tail _ (.tail _ (.tail _ (.tail _ (.tail _ (.tail _ (.tail _ h)))))))) | exact fun _ h => .tail _ (.tail _ (.tail _ (.tail _ (.tail _ (.tail _ (.tail _ (.tail _ (.tail _ (.tail _ h))))))))) | exact fun _ h => .tail _ (.tail _ (.tail _ (.tail _ (.tail _ (.tail _ (.tail _ (.tail _ (.tail _ (.tail _ (.tail _ h)))))))))) | exact fun _ h => .tail _ (.tail _ (.tail _ (.tail _ (.tail _ (.tail _ (.tail _ (.tail _ (.tail _ (.tail _ (.tail _ (.tail _ h))))))))))) | exact fun _ h => .tail _ (.tail _ (.tail _ (.tail _ (.tail _ (.tail _ (.tail _ (.tail _ (.tail _ (.tail _ (.tail _ (.tail _ (.tail _ h)))))))))))) | exact fun _ h => .tail _ (.tail _ (.tail _ (.tail _ (.tail _ (.tail _ (.tail _ (.tail _ (.tail _ (.tail _ (.tail _ (.tail _ (.tail _ (.tail _ h))))))))))))) | exact fun _ h => .tail _ (.tail _ (.tail _ (.tail _ (.tail _ (.tail _ (.tail _ (.tail _ (.tail _ (.tail _ (.tail _ (.tail _ (.tail _ (.tail _ (.tail _ h))))))))))))))) | exact Or.inl rfl); k_whole); intro v9 h9 tk9 F9 N9; (try dsimp only)))
local macro_rules | `(tactic| walk_at "exec Assert") => `(tactic| (refine Mine.assert_holds ?_))

namespace Mine
set_option maxRecDepth 100000 in
set_option maxHeartbeats 8000000 in
theorem c_isqrt_small (w : World) (news : List (Addr × Obj)) (x : Int) (t : Tok) (hx : 0 ≤ x) (hb : Builtin.Int.intBits x ≤ 4000) :
    Ctr w 28 1 news [.int x t] (RetI news (isq x)) := by
  w_top off
  dsimp only [Ctr, RetI, RetT2, RetT4, RetB, RetZ]
  k_fill
  intro pp loose mean mg mb dp un gd cn cs a ccd cl outer A₀ base h₀ L m s hxx Q E B F X N T hk hdp hu hcalm hret
  refine wpAny_call ?_
  k_dflt (refine' code_def ?k1 ?k2 ?k3 ?k4 ?k5 ?kA ?kF ?kK ?k6 ?k7 ?k8 ?k9 ?kB ?_ ?c2 ?c3 ?c4 ?c5; (case kA => exact rfl); (case kF => exact rfl); (case kK => assumption); (case k1 => k_asm); (case k2 => k_asm); (case k3 => k_asm); (case k4 => k_asm); (case k5 => k_asm); (case k6 => k_is); (case k7 => k_is); (case k8 => first | ((try dsimp only [Mine.ktrX]); (try simp only [depth_under_make, depth_under_kw, depth_in1, depth_deeper, depth_caller]); (try dsimp only [Mine.ktrX]); omega) | ((try dsimp only [Mine.ktrX] at *); ktr_room)); (case k9 => first | exact BindsTo.of_eq rfl | exact binds_K (by k_in) rfl (by k_is) rfl rfl rfl); (case c5 => decide); (case kB => exact locs rfl); (case c2 => exact rfl); (case c3 => exact rfl); (case c4 => exact rfl); k_whole; intro g' L' h' FG' F' N' B' X' T'; (try dsimp only); (try k_lift B'); (try k_fold))
  k_with_none
  (k_with "exec While Constant cons nil" => k_while (fun _ r => NInv x r) (fun _ r => r.toNat) "r")
  (k_with "state" => first | exact ninv_init hx hb | exact ninv_keep hx (by assumption) (by assumption) (by assumption))
  (k_with "measure" => exact ninv_meas (by assumption) (by assumption))
  k_steps
  all_goals first
    | exact (bits_half hb).1
    | exact (bits_half hb).2
    | (rename Fr _ _ _ _ => lF; rename News _ _ _ _ => lN; exact retI_end hret (ninv_end hx (by assumption) (by assumption)) lF lN (by first | exact fun _ h => .tail _ h | exact fun _ h => h | exact fun _ h => .tail _ (.tail _ h) | exact fun _ h => .tail _ (.tail _ (.tail _ h)) | exact fun _ h => .tail _ (.tail _ (.tail _ (.tail _ h))) | exact fun _ h => .tail _ (.tail _ (.tail _ (.tail _ (.tail _ h))))))
    | (rename Fr _ _ _ _ => lF; rename News _ _ _ _ => lN; exact retI_end hret (by subst_vars; exact isq_zero.symm) lF lN (by first | exact fun _ h => .tail _ h | exact fun _ h => h | exact fun _ h => .tail _ (.tail _ h) | exact fun _ h => .tail _ (.tail _ (.tail _ h)) | exact fun _ h => .tail _ (.tail _ (.tail _ (.tail _ h))) | exact fun _ h => .tail _ (.tail _ (.tail _ (.tail _ (.tail _ h))))))
local macro_rules | `(tactic| walk_at "call ref") => `(tactic| (k_here; (with_reducible show wpAny _ _ (call (Value.ref 28) _) _ _ _); k_dflt (refine' Mine.Ctr.use (Mine.c_isqrt_small _ _ _ _ ?_ ?_) ?k1 ?k2 ?k3 ?k4 ?k5 ?k6 ?k7 ?k8 ?k9 ?_; (case k1 => k_asm); (case k2 => k_asm); (case k3 => k_asm); (case k4 => k_asm); (case k5 => k_asm); (case k9 => first | assumption | exact Mine.CalmN.sub (by assumption) (by first | exact fun _ h => h | exact fun _ h => .tail _ h | exact fun _ h => .tail _ (.tail _ h) | exact fun _ h => .tail _ (.tail _ (.tail _ h)) | exact fun _ h => .tail _ (.tail _ (.tail _ (.tail _ h))) | exact fun _ h => .tail _ (.tail _ (.tail _ (.tail _ (.tail _ h)))) | exact fun _ h => .tail _ (.tail _ (.tail _ (.tail _ (.tail _ (.tail _ h))))) | exact fun _ h => .tail _ (.tail _ (.tail _ (.tail _ (.tail _ (.tail _ (.tail _ h)))))) | exact fun _ h => .tail _ (.tail _ (.tail _ (.tail _ (.tail _ (.tail _ (.tail _ (.tail _ h))))))) | exact fun _ h => .tail _ (.tail _ (.tail _ (.tail _ (.tail _ (.tail _ (.tail _ (.tail _ (.tail _ h)))))))) | exact fun _ h => .tail _ (.tail _ (.tail _ (.tail _ (.tail _ (.tail _ (.tail _ (.tail _ (.tail _ (.tail _ h))))))))) | exact fun _ h => .tail _ (.tail _ (.tail _ (.tail _ (.tail _ (.tail _ (.tail _ (.tail _ (.tail _ (.tail _ (.tail _ h)))))))))) | exact fun _ h => .tail _ (.tail _ (.tail _ (.tail _ (.tail _ (.tail _ (.tail _ (.tail _ (.tail _ (.tail _ (.tail _ (.tail _ h))))))))))) | exact fun _ h => .tail _ (.tail _ (.tail _ (.tail _ (.tail _ (.tail _ (.tail _ (.tail _ (.tail _ (.tail _ (.tail _ (.tail _ (.tail _ h)))))))))))) | exact fun _ h => .tail _ (.tail _ (.tail _ (.tail _ (.tail _ (.tail _ (.tail _ (.tail _ (.tail _ (.tail _ (.tail _ (.tail _ (.tail _ (.tail _ h))))))))))))) | exact fun _ h => .tail _ (.tail _ (.tail _ (.tail _ (.tail _ (.tail _ (.tail _ (.tail _ (.tail _ (.tail _ (.tail _ (.tail _ (.tail _ (.tail _ (.tail _ h))))))))))))))) | exact Or.inl rfl); (case k6 => first | exact rfl | assumption); (case k7 => first | ((try dsimp only [Mine.ktrX]); (try simp only [depth_under_make, depth_under_kw, depth_in1, depth_deeper, depth_caller]); (try dsimp only [Mine.ktrX]); omega) | ((try dsimp only [Mine.ktrX] at *); ktr_room)); (case k8 => first | ((try dsimp only [Mine.ktrX]); (try simp only [units_in1, units_deeper, Around.mark_units, units_caller]); (try dsimp only [Mine.ktrX]); omega) | ((try dsimp only [Mine.ktrX] at *); ktr_units)); (first | assumption | k_mem | omega | rotate_left); (first | assumption | k_mem | omega | rotate_left)); intro t9 h9 tk9 F9 N9; (try dsimp only); (try k_fold)))
set_option maxRecDepth 100000 in
set_option maxHeartbeats 8000000 in
theorem c_sqrtrem (w : World) (news : List (Addr × Obj)) (x : Int) (t : Tok) (hx : 0 ≤ x) (hb : Builtin.Int.intBits x ≤ 4000) :
    Ctr w 35 2 news [.int x t] (RetT2 news (isq x) (x - isq x * isq x)) := by
  w_top off
  dsimp only [Ctr, RetI, RetT2, RetT4, RetB, RetZ]
  k_fill
  intro pp loose mean mg mb dp un gd cn cs a ccd cl outer A₀ base h₀ L m s hxx Q E B F X N T hk hdp hu hcalm hret
  refine wpAny_call ?_
  k_dflt (refine' code_def ?k1 ?k2 ?k3 ?k4 ?k5 ?kA ?kF ?kK ?k6 ?k7 ?k8 ?k9 ?kB ?_ ?c2 ?c3 ?c4 ?c5; (case kA => exact rfl); (case kF => exact rfl); (case kK => assumption); (case k1 => k_asm); (case k2 => k_asm); (case k3 => k_asm); (case k4 => k_asm); (case k5 => k_asm); (case k6 => k_is); (case k7 => k_is); (case k8 => first | ((try dsimp only [Mine.ktrX]); (try simp only [depth_under_make, depth_under_kw, depth_in1, depth_deeper, depth_caller]); (try dsimp only [Mine.ktrX]); omega) | ((try dsimp only [Mine.ktrX] at *); ktr_room)); (case k9 => first | exact BindsTo.of_eq rfl | exact binds_K (by k_in) rfl (by k_is) rfl rfl rfl); (case c5 => decide); (case kB => exact locs rfl); (case c2 => exact rfl); (case c3 => exact rfl); (case c4 => exact rfl); k_whole; intro g' L' h' FG' F' N' B' X' T'; (try dsimp only); (try k_lift B'); (try k_fold))
  k_with_none
  k_steps
  all_goals first
    | exact mulOk_of_bits (bits_isq hx hb) (bits_isq hx hb) (by decide)
    | (rename Fr _ _ _ _ => lF; rename News _ _ _ _ => lN; exact retT2_end hret rfl rfl lF lN (by k_mem) (by first | exact fun _ h => .tail _ h | exact fun _ h => h | exact fun _ h => .tail _ (.tail _ h) | exact fun _ h => .tail _ (.tail _ (.tail _ h)) | exact fun _ h => .tail _ (.tail _ (.tail _ (.tail _ h))) | exact fun _ h => .tail _ (.tail _ (.tail _ (.tail _ (.tail _ h))))))
end Mine

end
section
local macro_rules | `(tactic| walk_at "none 0") => `(tactic| fail)
local macro_rules | `(tactic| walk_at "binaryOp LShift int int") => `(tactic| (refine PyProof.Rows.lshift_int ?_ ?_ ?_; rotate_left 2))
local macro_rules | `(tactic| walk_at "binaryOp FloorDiv int int") => `(tactic| (refine PyProof.Rows.floordiv_int (Mine.ninv_pos (by assumption)) ?_ (Or.inl (PyProof.noPylong_of_log2 (Mine.ninv_log (by assumption))))))
local macro_rules | `(tactic| walk_at "binaryOp Mult int int") => `(tactic| (refine PyProof.Rows.mul_int ?_ ?_; (try dsimp only)))
local macro_rules | `(tactic| walk_at "binaryOp Pow int int") => `(tactic| (refine PyProof.Rows.pow_int ?_ ?_ ?_; rotate_left 2; (try dsimp only)))
local macro_rules | `(tactic| walk_at "execs cons") => `(tactic| (with_reducible (refine Mine.gen_toks ?_; intro tk; refine wpAny_execs_cons ?_); (try dsimp only)))
local macro_rules | `(tactic| walk_at "execs nil") => `(tactic| (with_reducible (refine Mine.gen_toks ?_; intro tk; refine wpAny_execs_nil ?_); (try dsimp only)))
local macro_rules | `(tactic| walk_at "unpackItems ref") => `(tactic| (k_here; k_dflt (refine' Mine.unpack_calm ?kA ?kC ?k1 ?k2 ?k3 ?k5 ?_; (case kA => exact rfl); (case k1 => k_asm); (case k2 => k_asm); (case kC => first | exact Mine.CalmN.at (by assumption) (by k_asm) (by first | exact fun _ h => h | exact fun _ h => .tail _ h | exact fun _ h => .tail _ (.tail _ h) | exact fun _ h => .tail _ (.tail _ (.tail _ h)) | exact fun _ h => .tail _ (.tail _ (.tail _ (.tail _ h))) | exact fun _ h => .tail _ (.tail _ (.tail _ (.tail _ (.tail _ h)))) | exact fun _ h => .tail _ (.tail _ (.tail _ (.tail _ (.tail _ (.tail _ h))))) | exact fun _ h => .tail _ (.tail _ (.tail _ (.tail _ (.tail _ (.tail _ (.tail _ h)))))) | exact fun _ h => .tail _ (.tail _ (.tail _ (.tail _ (.tail _ (.tail _ (.tail _ (.tail _ h))))))) | exact fun _ h => .tail _ (.tail _ (.tail _ (.tail _ (.tail _ (.tail _ (.tail _ (.tail _ (.tail _ h)))))))) | exact fun _ h => .tail _ (.tail _ (.tail _ (.tail _ (.tail _ (.tail _ (.tail _ (.tail _ (.tail _ (.tail _ h))))))))) | exact fun _ h => .tail _ (.tail _ (.tail _ (.tail _ (.tail _ (.tail _ (.tail _ (.tail _ (.tail _ (.tail _ (.tail _ h)))))))))) | exact fun _ h => .tail _ (.tail _ (.tail _ (.tail _ (.tail _ (.tail _ (.tail _ (.tail _ (.tail _ (.tail _ (.tail _ (.tail _ h))))))))))) | exact fun _ h => .tail _ (.tail _ (.tail _ (.tail _ (.tail _ (.tail _ (.tail _ (.tail _ (.tail _ (.tail _ (.tail _ (.tail _ (.tail _ h)))))))))))) | exact fun _ h => .tail _ (.tail _ (.tail _ (.tail _ (.tail _ (.tail _ (.tail _ (.tail _ (.tail _ (.tail _ (.tail _ (.tail _ (.tail _ (.tail _ h))))))))))))) | exact fun _ h => .tail _ (.tail _ (.tail _ (.tail _ (.tail _ (.tail _ (.tail _ (.tail _ (.tail _ (.tail _ (.tail _ (.tail _ (.tail _ (.tail _ (.tail _ h))))))))))))))) | exact Or.inl rfl); (case k3 => kun_tup); (case k5 => exact rfl); k_whole); intro h' F' N'; (try k_sweep)))
local macro_rules | `(tactic| walk_at "assign Tuple") => `(tactic| (k_here; (with_reducible show wpAny _ _ (assign (Expr.Tuple _ _ _) _ (Value.ref _)) _ _ _); k_dflt (refine' Mine.assign_calm ?kA ?kC ?k1 ?k2 ?k3 ?k5 ?k6 ?_; (case kA => exact rfl); (case k1 => k_asm); (case k2 => k_asm); (case kC => first | exact Mine.CalmN.at (by assumption) (by k_asm) (by first | exact fun _ h => h | exact fun _ h => .tail _ h | exact fun _ h => .tail _ (.tail _ h) | exact fun _ h => .tail _ (.tail _ (.tail _ h)) | exact fun _ h => .tail _ (.tail _ (.tail _ (.tail _ h))) | exact fun _ h => .tail _ (.tail _ (.tail _ (.tail _ (.tail _ h)))) | exact fun _ h => .tail _ (.tail _ (.tail _ (.tail _ (.tail _ (.tail _ h))))) | exact fun _ h => .tail _ (.tail _ (.tail _ (.tail _ (.tail _ (.tail _ (.tail _ h)))))) | exact fun _ h => .tail _ (.tail _ (.tail _ (.tail _ (.tail _ (.tail _ (.tail _ (.tail _ h))))))) | exact fun _ h => .tail _ (.tail _ (.tail _ (.tail _ (.tail _ (.tail _ (.tail _ (.tail _ (.tail _ h)))))))) | exact fun _ h => .tail _ (.tail _ (.tail _ (.tail _ (.tail _ (.tail _ (.tail _ (.tail _ (.tail _ (.tail _ h))))))))) | exact fun _ h => .tail _ (.tail _ (.tail _ (.tail _ (.tail _ (.tail _ (.tail _ (.tail _ (.tail _ (.tail _ (.tail _ h)))))))))) | exact fun _ h => .tail _ (.tail _ (.tail _ (.tail _ (.tail _ (.tail _ (.tail _ (.tail _ (.tail _ (.tail _ (.tail _ (.tail _ h))))))))))) | exact fun _ h => .tail _ (.tail _ (.tail _ (.tail _ (.tail _ (.tail _ (.tail _ (.tail _ (.tail _ (.tail _ (.tail _ (.tail _ (.tail _ h)))))))))))) | exact fun _ h => .tail _ (.tail _ (.tail _ (.tail _ (.tail _ (.tail _ (.tail _ (.tail _ (.tail _ (.tail _ (.tail _ (.tail _ (.tail _ (.tail _ h))))))))))))) | exact fun _ h => .tail _ (.tail _ (.tail _ (.tail _ (.tail _ (.tail _ (.tail _ (.tail _ (.tail _ (.tail _ (.tail _ (.tail _ (.tail _ (.tail _ (.tail _ h))))))))))))))) | exact Or.inl rfl); (case k3 => kun_tup); (case k5 => exact rfl); (case k6 => exact rfl); k_whole); intro h' F' N'; (try k_sweep)))
local macro_rules | `(tactic| walk_at "call builtin:min") => `(tactic| (k_here; (with_reducible show wpAny _ _ (call (Value.builtin _) [Value.int _ _, Value.int _ _]) _ _ _); k_dflt (refine' Mine.min_calm ?kA ?kC ?k1 ?k2 ?_; (case kA => exact rfl); (case k1 => k_asm); (case k2 => k_asm); (case kC => first | exact Mine.CalmN.at (by assumption) (by k_asm) (by first | exact fun _ h => h | exact fun _ h => .tail _ h | exact fun _ h => .tail _ (.tail _ h) | exact fun _ h => .tail _ (.tail _ (.tail _ h)) | exact fun _ h => .tail _ (.tail _ (.tail _ (.tail _ h))) | exact fun _ h => .tail _ (.tail _ (.tail _ (.tail _ (.tail _ h)))) | exact fun _ h => .tail _ (.tail _ (.tail _ (.tail _ (.tail _ (.tail _ h))))) | exact fun _ h => .tail _ (.tail _ (.tail _ (.tail _ (.tail _ (.tail _ (.tail _ h)))))) | exact fun _ h => .tail _ (.tail _ (.tail _ (.tail _ (.tail _ (.tail _ (.tail _ (.tail _ h))))))) | exact fun _ h => .tail _ (.tail _ (.tail _ (.tail _ (.tail _ (.tail _ (.tail _ (.tail _ (.tail _ h)))))))) | exact fun _ h => .tail _ (.tail _ (.tail _ (.tail _ (.tail _ (.tail _ (.tail _ (.tail _ (.tail _ (.tail _ h))))))))) | exact fun _ h => .tail _ (.tail _ (.tail _ (.tail _ (.tail _ (.tail _ (.tail _ (.tail _ (.tail _ (.tail _ (.tail _ h)))))))))) | exact fun _ h => .tail _ (.tail _ (.tail _ (.tail _ (.tail _ (.tail _ (.tail _ (.tail _ (.tail _ (.tail _ (.tail _ (.tail _ h))))))))))) | exact fun _ h => .tail _ (.tail _ (.tail _ (.tail _ (.tail _ (.tail _ (.tail _ (.tail _ (.tail _ (.tail _ (.tail _ (.tail _ (.tail _ h)))))))))))) | exact fun _ h => .tail _ (.tail _ (.tail _ (.tail _ (.tail _ (.tail _ (.tail _ (.tail _ (.tail _ (.tail _ (.tail _ (.tail _ (.tail _ (.tail _ h))))))))))))) | exact fun _ h => .tail _ (.tail _ (.tail _ (.tail _ (.tail _ (.tail _ (.tail _ (.tail _ (.tail _ (.tail _ (.tail _ (.tail _ (.tail _ (.tail _ (.tail _ h))))))))))))))) | exact Or.inl rfl); k_whole); intro h9 tk9 F9 N9; (try dsimp only)))
local macro_rules | `(tactic| walk_at "call builtin:max") => `(tactic| (k_here; (with_reducible show wpAny _ _ (call (Value.builtin _) [Value.int _ _, Value.int _ _]) _ _ _); k_dflt (refine' Mine.max_wc ?kA ?kC ?k1 ?k2 ?_; (case kA => exact rfl); (case k1 => k_asm); (case k2 => k_asm); (case kC => first | exact Mine.CalmN.at (by assumption) (by k_asm) (by first | exact fun _ h => h | exact fun _ h => .tail _ h | exact fun _ h => .tail _ (.tail _ h) | exact fun _ h => .tail _ (.tail _ (.tail _ h)) | exact fun _ h => .tail _ (.tail _ (.tail _ (.tail _ h))) | exact fun _ h => .tail _ (.tail _ (.tail _ (.tail _ (.tail _ h)))) | exact fun _ h => .tail _ (.tail _ (.tail _ (.tail _ (.tail _ (.tail _ h))))) | exact fun _ h => .tail _ (.tail _ (.tail _ (.tail _ (.tail _ (.tail _ (.tail _ h)))))) | exact fun _ h => .tail _ (.tail _ (.tail _ (.tail _ (.tail _ (.tail _ (.tail _ (.tail _ h))))))) | exact fun _ h => .tail _ (.tail _ (.tail _ (.tail _ (.tail _ (.tail _ (.tail _ (.tail _ (.tail _ h)))))))) | exact fun _ h => .tail _ (.tail _ (.tail _ (.tail _ (.tail _ (.tail _ (.tail _ (.tail _ (.tail _ (.tail _ h))))))))) | exact fun _ h => .tail _ (.tail _ (.tail _ (.tail _ (.tail _ (.tail _ (.tail _ (.tail _ (.tail _ (.tail _ (.tail _ h)))))))))) | exact fun _ h => .tail _ (.tail _ (.tail _ (.tail _ (.tail _ (.tail _ (.tail _ (.tail _ (.tail _ (.tail _ (.tail _ (.tail _ h))))))))))) | exact fun _ h => .tail _ (.tail _ (.tail _ (.tail _ (.tail _ (.tail _ (.tail _ (.tail _ (.tail _ (.tail _ (.tail _ (.tail _ (.tail _ h)))))))))))) | exact fun _ h => .tail _ (.tail _ (.tail _ (.tail _ (.tail _ (.tail _ (.tail _ (.tail _ (.tail _ (.tail _ (.tail _ (.tail _ (.tail _ (.tail _ h))))))))))))) | exact fun _ h => .tail _ (.tail _ (.tail _ (.tail _ (.tail _ (.tail _ (.tail _ (.tail _ (.tail _ (.tail _ (.tail _ (.tail _ (.tail _ (.tail _ (.tail _ h))))))))))))))) | exact Or.inl rfl); k_whole); intro v9 h9 tk9 F9 N9; (try dsimp only)))
local macro_rules | `(tactic| walk_at "exec Assert") => `(tactic| (refine Mine.assert_holds ?_))

local macro_rules | `(tactic| walk_at "call ref") => `(tactic| (k_here; (with_reducible show wpAny _ _ (call (Value.ref 35) _) _ _ _); k_dflt (refine' Mine.Ctr.use (Mine.c_sqrtrem _ _ _ _ ?_ ?_) ?k1 ?k2 ?k3 ?k4 ?k5 ?k6 ?k7 ?k8 ?k9 ?_; (case k1 => k_asm); (case k2 => k_asm); (case k3 => k_asm); (case k4 => k_asm); (case k5 => k_asm); (case k9 => first | assumption | exact Mine.CalmN.sub (by assumption) (by first | exact fun _ h => h | exact fun _ h => .tail _ h | exact fun _ h => .tail _ (.tail _ h) | exact fun _ h => .tail _ (.tail _ (.tail _ h)) | exact fun _ h => .tail _ (.tail _ (.tail _ (.tail _ h))) | exact fun _ h => .tail _ (.tail _ (.tail _ (.tail _ (.tail _ h)))) | exact fun _ h => .tail _ (.tail _ (.tail _ (.tail _ (.tail _ (.tail _ h))))) | exact fun _ h => .tail _ (.tail _ (.tail _ (.tail _ (.tail _ (.tail _ (.tail _ h)))))) | exact fun _ h => .tail _ (.tail _ (.tail _ (.tail _ (.tail _ (.tail _ (.tail _ (.tail _ h))))))) | exact fun _ h => .tail _ (.tail _ (.tail _ (.tail _ (.tail _ (.tail _ (.tail _ (.tail _ (.tail _ h)))))))) | exact fun _ h => .tail _ (.tail _ (.tail _ (.tail _ (.tail _ (.tail _ (.tail _ (.tail _ (.tail _ (.tail _ h))))))))) | exact fun _ h => .tail _ (.tail _ (.tail _ (.tail _ (.tail _ (.tail _ (.tail _ (.tail _ (.tail _ (.tail _ (.tail _ h)))))))))) | exact fun _ h => .tail _ (.tail _ (.tail _ (.tail _ (.tail _ (.tail _ (.tail _ (.tail _ (.tail _ (.tail _ (.tail _ (.tail _ h))))))))))) | exact fun _ h => .tail _ (.tail _ (.tail _ (.tail _ (.tail _ (.tail _ (.tail _ (.tail _ (.tail _ (.tail _ (.tail _ (.tail _ (.tail _ h)))))))))))) | exact fun _ h => .tail _ (.tail _ (.tail _ (.tail _ (.tail _ (.tail _ (.tail _ (.tail _ (.tail _ (.tail _ (.tail _ (.tail _ (.tail _ (.tail _ h))))))))))))) | exact fun _ h => .tail _ (.tail _ (.tail _ (.tail _ (.tail _ (.tail _ (.tail _ (.tail _ (.tail _ (.tail _ (.tail _ (.tail _ (.tail _ (.tail _ (.tail _ h))))))))))))))) | exact Or.inl rfl); (case k6 => first | exact rfl | assumption); (case k7 => first | ((try dsimp only [Mine.ktrX]); (try simp only [depth_under_make, depth_under_kw, depth_in1, depth_deeper, depth_caller]); (try dsimp only [Mine.ktrX]); omega) | ((try dsimp only [Mine.ktrX] at *); ktr_room)); (case k8 => first | ((try dsimp only [Mine.ktrX]); (try simp only [units_in1, units_deeper, Around.mark_units, units_caller]); (try dsimp only [Mine.ktrX]); omega) | ((try dsimp only [Mine.ktrX] at *); ktr_units)); (first | assumption | k_mem | omega | rotate_left); (first | assumption | k_mem | omega | rotate_left)); intro D9 t9 u9 h9 tk9 F9 N9; (try dsimp only); (try k_fold)))
namespace Mine
set_option maxRecDepth 100000 in
set_option maxHeartbeats 8000000 in
theorem c_isqrt (w : World) (news : List (Addr × Obj)) (x : Int) (t : Tok) (hx : 0 ≤ x) (hb : Builtin.Int.intBits x ≤ 4000) :
    Ctr w 42 3 news [.int x t] (RetI news (isq x)) := by
  w_top off
  dsimp only [Ctr, RetI, RetT2, RetT4, RetB, RetZ]
  k_fill
  intro pp loose mean mg mb dp un gd cn cs a ccd cl outer A₀ base h₀ L m s hxx Q E B F X N T hk hdp hu hcalm hret
  refine wpAny_call ?_
  k_dflt (refine' code_def ?k1 ?k2 ?k3 ?k4 ?k5 ?kA ?kF ?kK ?k6 ?k7 ?k8 ?k9 ?kB ?_ ?c2 ?c3 ?c4 ?c5; (case kA => exact rfl); (case kF => exact rfl); (case kK => assumption); (case k1 => k_asm); (case k2 => k_asm); (case k3 => k_asm); (case k4 => k_asm); (case k5 => k_asm); (case k6 => k_is); (case k7 => k_is); (case k8 => first | ((try dsimp only [Mine.ktrX]); (try simp only [depth_under_make, depth_under_kw, depth_in1, depth_deeper, depth_caller]); (try dsimp only [Mine.ktrX]); omega) | ((try dsimp only [Mine.ktrX] at *); ktr_room)); (case k9 => first | exact BindsTo.of_eq rfl | exact binds_K (by k_in) rfl (by k_is) rfl rfl rfl); (case c5 => decide); (case kB => exact locs rfl); (case c2 => exact rfl); (case c3 => exact rfl); (case c4 => exact rfl); k_whole; intro g' L' h' FG' F' N' B' X' T'; (try dsimp only); (try k_lift B'); (try k_fold))
  k_with_none
  k_steps
  all_goals first
    | (rename Fr _ _ _ _ => lF; rename News _ _ _ _ => lN; exact retI_end hret rfl lF lN (by first | exact fun _ h => .tail _ h | exact fun _ h => h | exact fun _ h => .tail _ (.tail _ h) | exact fun _ h => .tail _ (.tail _ (.tail _ h)) | exact fun _ h => .tail _ (.tail _ (.tail _ (.tail _ h))) | exact fun _ h => .tail _ (.tail _ (.tail _ (.tail _ (.tail _ h))))))
end Mine

end
section
local macro_rules | `(tactic| walk_at "none 0") => `(tactic| fail)
local macro_rules | `(tactic| walk_at "none 1") => `(tactic| fail)
local macro_rules | `(tactic| walk_at "none 2") => `(tactic| fail)
local macro_rules | `(tactic| walk_at "binaryOp LShift int int") => `(tactic| (refine PyProof.Rows.lshift_int ?_ ?_ ?_; rotate_left 2))
local macro_rules | `(tactic| walk_at "binaryOp FloorDiv int int") => `(tactic| (refine PyProof.Rows.floordiv_int (Mine.ninv_pos (by assumption)) ?_ (Or.inl (PyProof.noPylong_of_log2 (Mine.ninv_log (by assumption))))))
local macro_rules | `(tactic| walk_at "binaryOp Mult int int") => `(tactic| (refine PyProof.Rows.mul_int ?_ ?_; (try dsimp only)))
local macro_rules | `(tactic| walk_at "binaryOp Pow int int") => `(tactic| (refine PyProof.Rows.pow_int ?_ ?_ ?_; rotate_left 2; (try dsimp only)))
local macro_rules | `(tactic| walk_at "execs cons") => `(tactic| (with_reducible (refine Mine.gen_toks ?_; intro tk; refine wpAny_execs_cons ?_); (try dsimp only)))
local macro_rules | `(tactic| walk_at "execs nil") => `(tactic| (with_reducible (refine Mine.gen_toks ?_; intro tk; refine wpAny_execs_nil ?_); (try dsimp only)))
local macro_rules | `(tactic| walk_at "unpackItems ref") => `(tactic| (k_here; k_dflt (refine' Mine.unpack_calm ?kA ?kC ?k1 ?k2 ?k3 ?k5 ?_; (case kA => exact rfl); (case k1 => k_asm); (case k2 => k_asm); (case kC => first | exact Mine.CalmN.at (by assumption) (by k_asm) (by first | exact fun _ h => h | exact fun _ h => .tail _ h | exact fun _ h => .tail _ (.tail _ h) | exact fun _ h => .tail _ (.tail _ (.tail _ h)) | exact fun _ h => .tail _ (.tail _ (.tail _ (.tail _ h))) | exact fun _ h => .tail _ (.tail _ (.tail _ (.tail _ (.tail _ h)))) | exact fun _ h => .tail _ (.tail _ (.tail _ (.tail _ (.tail _ (.tail _ h))))) | exact fun _ h => .tail _ (.tail _ (.tail _ (.tail _ (.tail _ (.tail _ (.tail _ h)))))) | exact fun _ h => .tail _ (.tail _ (.tail _ (.tail _ (.tail _ (.tail _ (.tail _ (.tail _ h))))))) | exact fun _ h => .tail _ (.tail _ (.tail _ (.tail _ (.tail _ (.tail _ (.tail _ (.tail _ (.tail _ h)))))))) | exact fun _ h => .tail _ (.tail _ (.tail _ (.tail _ (.tail _ (.tail _ (.tail _ (.tail _ (.tail _ (.tail _ h))))))))) | exact fun _ h => .tail _ (.tail _ (.tail _ (.tail _ (.tail _ (.tail _ (.tail _ (.tail _ (.tail _ (.tail _ (.tail _ h)))))))))) | exact fun _ h => .tail _ (.tail _ (.tail _ (.tail _ (.tail _ (.tail _ (.tail _ (.tail _ (.tail _ (.tail _ (.tail _ (.tail _ h))))))))))) | exact fun _ h => .tail _ (.tail _ (.tail _ (.tail _ (.tail _ (.tail _ (.tail _ (.tail _ (.tail _ (.tail _ (.tail _ (.tail _ (.tail _ h)))))))))))) | exact fun _ h => .tail _ (.tail _ (.tail _ (.tail _ (.tail _ (.tail _ (.tail _ (.tail _ (.tail _ (.tail _ (.tail _ (.tail _ (.tail _ (.tail _ h))))))))))))) | exact fun _ h => .tail _ (.tail _ (.tail _ (.tail _ (.tail _ (.tail _ (.tail _ (.tail _ (.tail _ (.tail _ (.tail _ (.tail _ (.tail _ (.tail _ (.tail _ h))))))))))))))) | exact Or.inl rfl); (case k3 => kun_tup); (case k5 => exact rfl); k_whole); intro h' F' N'; (try k_sweep)))
local macro_rules | `(tactic| walk_at "assign Tuple") => `(tactic| (k_here; (with_reducible show wpAny _ _ (assign (Expr.Tuple _ _ _) _ (Value.ref _)) _ _ _); k_dflt (refine' Mine.assign_calm ?kA ?kC ?k1 ?k2 ?k3 ?k5 ?k6 ?_; (case kA => exact rfl); (case k1 => k_asm); (case k2 => k_asm); (case kC => first | exact Mine.CalmN.at (by assumption) (by k_asm) (by first | exact fun _ h => h | exact fun _ h => .tail _ h | exact fun _ h => .tail _ (.tail _ h) | exact fun _ h => .tail _ (.tail _ (.tail _ h)) | exact fun _ h => .tail _ (.tail _ (.tail _ (.tail _ h))) | exact fun _ h => .tail _ (.tail _ (.tail _ (.tail _ (.tail _ h)))) | exact fun _ h => .tail _ (.tail _ (.tail _ (.tail _ (.tail _ (.tail _ h))))) | exact fun _ h => .tail _ (.tail _ (.tail _ (.tail _ (.tail _ (.tail _ (.tail _ h)))))) | exact fun _ h => .tail _ (.tail _ (.tail _ (.tail _ (.tail _ (.tail _ (.tail _ (.tail _ h))))))) | exact fun _ h => .tail _ (.tail _ (.tail _ (.tail _ (.tail _ (.tail _ (.tail _ (.tail _ (.tail _ h)))))))) | exact fun _ h => .tail _ (.tail _ (.tail _ (.tail _ (.tail _ (.tail _ (.tail _ (.tail _ (.tail _ (.tail _ h))))))))) | exact fun _ h => .tail _ (.tail _ (.tail _ (.tail _ (.tail _ (.tail _ (.tail _ (.tail _ (.tail _ (.tail _ (.tail _ h)))))))))) | exact fun _ h => .tail _ (.tail _ (.tail _ (.tail _ (.tail _ (.tail _ (.tail _ (.tail _ (.tail _ (.tail _ (.tail _ (.tail _ h))))))))))) | exact fun _ h => .tail _ (.tail _ (.tail _ (.tail _ (.tail _ (.tail _ (.tail _ (.tail _ (.tail _ (.tail _ (.tail _ (.tail _ (.tail _ h)))))))))))) | exact fun _ h => .tail _ (.tail _ (.tail _ (.tail _ (.tail _ (.tail _ (.tail _ (.tail _ (.tail _ (.tail _ (.tail _ (.tail _ (.tail _ (.tail _ h))))))))))))) | exact fun _ h => .tail _ (.tail _ (.tail _ (.tail _ (.tail _ (.tail _ (.tail _ (.tail _ (.tail _ (.tail _ (.tail _ (.tail _ (.tail _ (.tail _ (.tail _ h))))))))))))))) | exact Or.inl rfl); (case k3 => kun_tup); (case k5 => exact rfl); (case k6 => exact rfl); k_whole); intro h' F' N'; (try k_sweep)))
local macro_rules | `(tactic| walk_at "call builtin:min") => `(tactic| (k_here; (with_reducible show wpAny _ _ (call (Value.builtin _) [Value.int _ _, Value.int _ _]) _ _ _); k_dflt (refine' Mine.min_calm ?kA ?kC ?k1 ?k2 ?_; (case kA => exact rfl); (case k1 => k_asm); (case k2 => k_asm); (case kC => first | exact Mine.CalmN.at (by assumption) (by k_asm) (by first | exact fun _ h => h | exact fun _ h => .tail _ h | exact fun _ h => .tail _ (.tail _ h) | exact fun _ h => .tail _ (.tail _ (.tail _ h)) | exact fun _ h => .tail _ (.tail _ (.tail _ (.tail _ h))) | exact fun _ h => .tail _ (.tail _ (.tail _ (.tail _ (.tail _ h)))) | exact fun _ h => .tail _ (.tail _ (.tail _ (.tail _ (.tail _ (.tail _ h))))) | exact fun _ h => .tail _ (.tail _ (.tail _ (.tail _ (.tail _ (.tail _ (.tail _ h)))))) | exact fun _ h => .tail _ (.tail _ (.tail _ (.tail _ (.tail _ (.tail _ (.tail _ (.tail _ h))))))) | exact fun _ h => .tail _ (.tail _ (.tail _ (.tail _ (.tail _ (.tail _ (.tail _ (.tail _ (.tail _ h)))))))) | exact fun _ h => .tail _ (.tail _ (.tail _ (.tail _ (.tail _ (.tail _ (.tail _ (.tail _ (.tail _ (.tail _ h))))))))) | exact fun _ h => .tail _ (.tail _ (.tail _ (.tail _ (.tail _ (.tail _ (.tail _ (.tail _ (.tail _ (.tail _ (.tail _ h)))))))))) | exact fun _ h => .tail _ (.tail _ (.tail _ (.tail _ (.tail _ (.tail _ (.tail _ (.tail _ (.tail _ (.tail _ (.tail _ (.tail _ h))))))))))) | exact fun _ h => .tail _ (.tail _ (.tail _ (.tail _ (.tail _ (.tail _ (.tail _ (.tail _ (.tail _ (.tail _ (.tail _ (.tail _ (.tail _ h)))))))))))) | exact fun _ h => .tail _ (.tail _ (.tail _ (.tail _ (.tail _ (.tail _ (.tail _ (.tail _ (.tail _ (.tail _ (.tail _ (.tail _ (.tail _ (.tail _ h))))))))))))) | exact fun _ h => .tail _ (.tail _ (.tail _ (.tail _ (.tail _ (.tail _ (.tail _ (.tail _ (.tail _ (.tail _ (.tail _ (.tail _ (.tail _ (.tail _ (.tail _ h))))))))))))))) | exact Or.inl rfl); k_whole); intro h9 tk9 F9 N9; (try dsimp only)))
local macro_rules | `(tactic| walk_at "call builtin:max") => `(tactic| (k_here; (with_reducible show wpAny _ _ (call (Value.builtin _) [Value.int _ _, Value.int _ _]) _ _ _); k_dflt (refine' Mine.max_wc ?kA ?kC ?k1 ?k2 ?_; (case kA => exact rfl); (case k1 => k_asm); (case k2 => k_asm); (case kC => first | exact Mine.CalmN.at (by assumption) (by k_asm) (by first | exact fun _ h => h | exact fun _ h => .tail _ h | exact fun _ h => .tail _ (.tail _ h) | exact fun _ h => .tail _ (.tail _ (.tail _ h)) | exact fun _ h => .tail _ (.tail _ (.tail _ (.tail _ h))) | exact fun _ h => .tail _ (.tail _ (.tail _ (.tail _ (.tail _ h)))) | exact fun _ h => .tail _ (.tail _ (.tail _ (.tail _ (.tail _ (.tail _ h))))) | exact fun _ h => .tail _ (.tail _ (.tail _ (.tail _ (.tail _ (.tail _ (.tail _ h)))))) | exact fun _ h => .tail _ (.tail _ (.tail _ (.tail _ (.tail _ (.tail _ (.tail _ (.tail _ h))))))) | exact fun _ h => .tail _ (.tail _ (.tail _ (.tail _ (.tail _ (.tail _ (.tail _ (.tail _ (.tail _ h)))))))) | exact fun _ h => .tail _ (.tail _ (.tail _ (.tail _ (.tail _ (.tail _ (.tail _ (.tail _ (.tail _ (.tail _ h))))))))) | exact fun _ h => .tail _ (.tail _ (.tail _ (.tail _ (.tail _ (.tail _ (.tail _ (.tail _ (.tail _ (.tail _ (.tail _ h)))))))))) | exact fun _ h => .tail _ (.tail _ (.tail _ (.tail _ (.tail _ (.tail _ (.tail _ (.tail _ (.tail _ (.tail _ (.tail _ (.tail _ h))))))))))) | exact fun _ h => .tail _ (.tail _ (.tail _ (.tail _ (.tail _ (.tail _ (.tail _ (.tail _ (.tail _ (.tail _ (.tail _ (.tail _ (.tail _ h)))))))))))) | exact fun _ h => .tail _ (.tail _ (.tail _ (.tail _ (.tail _ (.tail _ (.tail _ (.tail _ (.tail _ (.tail _ (.tail _ (.tail _ (.tail _ (.tail _ h))))))))))))) | exact fun _ h => .tail _ (.tail _ (.tail _ (.tail _ (.tail _ (.tail _ (.tail _ (.tail _ (.tail _ (.tail _ (.tail _ (.tail _ (.tail _ (.tail _ (.tail _ h))))))))))))))) | exact Or.inl rfl); k_whole); intro v9 h9 tk9 F9 N9; (try dsimp only)))
local macro_rules | `(tactic| walk_at "exec Assert") => `(tactic| (refine Mine.assert_holds ?_))

namespace Mine
set_option maxRecDepth 100000 in
set_option maxHeartbeats 8000000 in
theorem c_trailing (w : World) (news : List (Addr × Obj)) (n : Int) (t : Tok) (hn : 0 < n) : Ctr w 21 1 news [.int n t] (RetI news (tz n)) := by
  w_top off
  dsimp only [Ctr, RetI, RetT2, RetT4, RetB, RetZ]
  k_fill
  intro pp loose mean mg mb dp un gd cn cs a ccd cl outer A₀ base h₀ L m s hxx Q E B F X N T hk hdp hu hcalm hret
  refine wpAny_call ?_
  k_dflt (refine' code_def ?k1 ?k2 ?k3 ?k4 ?k5 ?kA ?kF ?kK ?k6 ?k7 ?k8 ?k9 ?kB ?_ ?c2 ?c3 ?c4 ?c5; (case kA => exact rfl); (case kF => exact rfl); (case kK => assumption); (case k1 => k_asm); (case k2 => k_asm); (case k3 => k_asm); (case k4 => k_asm); (case k5 => k_asm); (case k6 => k_is); (case k7 => k_is); (case k8 => first | ((try dsimp only [Mine.ktrX]); (try simp only [depth_under_make, depth_under_kw, depth_in1, depth_deeper, depth_caller]); (try dsimp only [Mine.ktrX]); omega) | ((try dsimp only [Mine.ktrX] at *); ktr_room)); (case k9 => first | exact BindsTo.of_eq rfl | exact binds_K (by k_in) rfl (by k_is) rfl rfl rfl); (case c5 => decide); (case kB => exact locs rfl); (case c2 => exact rfl); (case c3 => exact rfl); (case c4 => exact rfl); k_whole; intro g' L' h' FG' F' N' B' X' T'; (try dsimp only); (try k_lift B'); (try k_fold))
  k_with_none
  k_steps
  all_goals first
    | (rename Fr _ _ _ _ => lF; rename News _ _ _ _ => lN; exact retI_end hret (trailing_eq hn) lF lN (by first | exact fun _ h => .tail _ h | exact fun _ h => h | exact fun _ h => .tail _ (.tail _ h) | exact fun _ h => .tail _ (.tail _ (.tail _ h)) | exact fun _ h => .tail _ (.tail _ (.tail _ (.tail _ h))) | exact fun _ h => .tail _ (.tail _ (.tail _ (.tail _ (.tail _ h))))))
    | (exfalso; omega)
@[irreducible] def lst (low high : Int) : Int := if high < low then high else low
theorem lst_le (low high : Int) : lst low high ≤ low ∧ lst low high ≤ high ∧ (lst low high = low ∨ lst low high = high) := by unfold lst; split <;> omega
/-- two * 2 ^ high - one * 2 ^ low, scaled by the lesser of the exponents -/
def lessv (one low two high : Int) : Int := two * 2 ^ (high - lst low high).toNat - one * 2 ^ (low - lst low high).toNat
theorem less_shift {low high : Int} (hl : -1000 ≤ low ∧ low ≤ 1000) (hh : -1000 ≤ high ∧ high ≤ 1000) : (0 ≤ low - (if high < low then high else low) ∧ (Builtin.Int.intBits 2 : Int) * (low - (if high < low then high else low)) ≤ 2 ^ 27) ∧ (0 ≤ high - (if high < low then high else low) ∧ (Builtin.Int.intBits 2 : Int) * (high - (if high < low then high else low)) ≤ 2 ^ 27) := by
  rw [show Builtin.Int.intBits 2 = 2 by decide]
  split <;> omega
theorem bits_two_pow {k : Nat} {m : Nat} (h : k ≤ m) : Builtin.Int.intBits ((2:Int) ^ k) ≤ m + 1 := by rw [bits_pow2]; omega
theorem less_mul {low high one : Int} (b : Builtin.Int.intBits one ≤ 4000) (hl : -1000 ≤ low ∧ low ≤ 1000) (hh : -1000 ≤ high ∧ high ≤ 1000) : IntMulOk one (2 ^ (low - (if high < low then high else low)).toNat) ∧ IntMulOk one (2 ^ (high - (if high < low then high else low)).toNat) :=
  ⟨mulOk_of_bits b (bits_two_pow (m := 2000) (by split <;> omega)) (by decide), mulOk_of_bits b (bits_two_pow (m := 2000) (by split <;> omega)) (by decide)⟩
set_option maxRecDepth 100000 in
set_option maxHeartbeats 8000000 in
theorem c_less (w : World) (news : List (Addr × Obj)) (one low two high : Int) (t u v z : Tok) (b1 : Builtin.Int.intBits one ≤ 4000) (b2 : Builtin.Int.intBits two ≤ 4000) (hl : -1000 ≤ low ∧ low ≤ 1000) (hh : -1000 ≤ high ∧ high ≤ 1000) :
    Ctr w 162 1 news [.int one t, .int low u, .int two v, .int high z] (RetI news (lessv one low two high)) := by
  w_top off
  dsimp only [Ctr, RetI, RetT2, RetT4, RetB, RetZ]
  k_fill
  intro pp loose mean mg mb dp un gd cn cs a ccd cl outer A₀ base h₀ L m s hxx Q E B F X N T hk hdp hu hcalm hret
  refine wpAny_call ?_
  k_dflt (refine' code_def ?k1 ?k2 ?k3 ?k4 ?k5 ?kA ?kF ?kK ?k6 ?k7 ?k8 ?k9 ?kB ?_ ?c2 ?c3 ?c4 ?c5; (case kA => exact rfl); (case kF => exact rfl); (case kK => assumption); (case k1 => k_asm); (case k2 => k_asm); (case k3 => k_asm); (case k4 => k_asm); (case k5 => k_asm); (case k6 => k_is); (case k7 => k_is); (case k8 => first | ((try dsimp only [Mine.ktrX]); (try simp only [depth_under_make, depth_under_kw, depth_in1, depth_deeper, depth_caller]); (try dsimp only [Mine.ktrX]); omega) | ((try dsimp only [Mine.ktrX] at *); ktr_room)); (case k9 => first | exact BindsTo.of_eq rfl | exact binds_K (by k_in) rfl (by k_is) rfl rfl rfl); (case c5 => decide); (case kB => exact locs rfl); (case c2 => exact rfl); (case c3 => exact rfl); (case c4 => exact rfl); k_whole; intro g' L' h' FG' F' N' B' X' T'; (try dsimp only); (try k_lift B'); (try k_fold))
  k_with_none
  k_steps
  all_goals first
    | exact (less_shift hl hh).1.1
    | exact (less_shift hl hh).1.2
    | exact (less_shift hl hh).2.1
    | exact (less_shift hl hh).2.2
    | exact (less_mul b1 hl hh).1
    | exact (less_mul b2 hl hh).2
    | (rename Fr _ _ _ _ => lF; rename News _ _ _ _ => lN; exact retI_end hret (by unfold lessv lst; rfl) lF lN (by first | exact fun _ h => .tail _ h | exact fun _ h => h | exact fun _ h => .tail _ (.tail _ h) | exact fun _ h => .tail _ (.tail _ (.tail _ h)) | exact fun _ h => .tail _ (.tail _ (.tail _ (.tail _ h))) | exact fun _ h => .tail _ (.tail _ (.tail _ (.tail _ (.tail _ h))))))
end Mine

end
section
local macro_rules | `(tactic| walk_at "none 0") => `(tactic| fail)
local macro_rules | `(tactic| walk_at "none 1") => `(tactic| fail)
local macro_rules | `(tactic| walk_at "none 2") => `(tactic| fail)
local macro_rules | `(tactic| walk_at "none 3") => `(tactic| fail)
local macro_rules | `(tactic| walk_at "binaryOp LShift int int") => `(tactic| (refine PyProof.Rows.lshift_int ?_ ?_ ?_; rotate_left 2))
local macro_rules | `(tactic| walk_at "binaryOp FloorDiv int int") => `(tactic| (refine PyProof.Rows.floordiv_int (Mine.ninv_pos (by assumption)) ?_ (Or.inl (PyProof.noPylong_of_log2 (Mine.ninv_log (by assumption))))))
local macro_rules | `(tactic| walk_at "binaryOp Mult int int") => `(tactic| (refine PyProof.Rows.mul_int ?_ ?_; (try dsimp only)))
local macro_rules | `(tactic| walk_at "binaryOp Pow int int") => `(tactic| (refine PyProof.Rows.pow_int ?_ ?_ ?_; rotate_left 2; (try dsimp only)))
local macro_rules | `(tactic| walk_at "execs cons") => `(tactic| (with_reducible (refine Mine.gen_toks ?_; intro tk; refine wpAny_execs_cons ?_); (try dsimp only)))
local macro_rules | `(tactic| walk_at "execs nil") => `(tactic| (with_reducible (refine Mine.gen_toks ?_; intro tk; refine wpAny_execs_nil ?_); (try dsimp only)))
local macro_rules | `(tactic| walk_at "unpackItems ref") => `(tactic| (k_here; k_dflt (refine' Mine.unpack_calm ?kA ?kC ?k1 ?k2 ?k3 ?k5 ?_; (case kA => exact rfl); (case k1 => k_asm); (case k2 => k_asm); (case kC => first | exact Mine.CalmN.at (by assumption) (by k_asm) (by first | exact fun _ h => h | exact fun _ h => .tail _ h | exact fun _ h => .tail _ (.tail _ h) | exact fun _ h => .tail _ (.tail _ (.tail _ h)) | exact fun _ h => .tail _ (.tail _ (.tail _ (.tail _ h))) | exact fun _ h => .tail _ (.tail _ (.tail _ (.tail _ (.tail _ h)))) | exact fun _ h => .tail _ (.tail _ (.tail _ (.tail _ (.tail _ (.tail _ h))))) | exact fun _ h => .tail _ (.tail _ (.tail _ (.tail _ (.tail _ (.tail _ (.tail _ h)))))) | exact fun _ h => .tail _ (.tail _ (.tail _ (.tail _ (.tail _ (.tail _ (.tail _ (.tail _ h))))))) | exact fun _ h => .tail _ (.tail _ (.tail _ (.tail _ (.tail _ (.tail _ (.tail _ (.tail _ (.tail _ h)))))))) | exact fun _ h => .tail _ (.tail _ (.tail _ (.tail _ (.tail _ (.tail _ (.tail _ (.tail _ (.tail _ (.tail _ h))))))))) | exact fun _ h => .tail _ (.tail _ (.tail _ (.tail _ (.tail _ (.tail _ (.tail _ (.tail _ (.tail _ (.tail _ (.tail _ h)))))))))) | exact fun _ h => .tail _ (.tail _ (.tail _ (.tail _ (.tail _ (.tail _ (.tail _ (.tail _ (.tail _ (.tail _ (.tail _ (.tail _ h))))))))))) | exact fun _ h => .tail _ (.tail _ (.tail _ (.tail _ (.tail _ (.tail _ (.tail _ (.tail _ (.tail _ (.tail _ (.tail _ (.tail _ (.tail _ h)))))))))))) | exact fun _ h => .tail _ (.tail _ (.tail _ (.tail _ (.tail _ (.tail _ (.tail _ (.tail _ (.tail _ (.tail _ (.tail _ (.tail _ (.tail _ (.tail _ h))))))))))))) | exact fun _ h => .tail _ (.tail _ (.tail _ (.tail _ (.tail _ (.tail _ (.tail _ (.tail _ (.tail _ (.tail _ (.tail _ (.tail _ (.tail _ (.tail _ (.tail _ h))))))))))))))) | exact Or.inl rfl); (case k3 => kun_tup); (case k5 => exact rfl); k_whole); intro h' F' N'; (try k_sweep)))
local macro_rules | `(tactic| walk_at "assign Tuple") => `(tactic| (k_here; (with_reducible show wpAny _ _ (assign (Expr.Tuple _ _ _) _ (Value.ref _)) _ _ _); k_dflt (refine' Mine.assign_calm ?kA ?kC ?k1 ?k2 ?k3 ?k5 ?k6 ?_; (case kA => exact rfl); (case k1 => k_asm); (case k2 => k_asm); (case kC => first | exact Mine.CalmN.at (by assumption) (by k_asm) (by first | exact fun _ h => h | exact fun _ h => .tail _ h | exact fun _ h => .tail _ (.tail _ h) | exact fun _ h => .tail _ (.tail _ (.tail _ h)) | exact fun _ h => .tail _ (.tail _ (.tail _ (.tail _ h))) | exact fun _ h => .tail _ (.tail _ (.tail _ (.tail _ (.tail _ h)))) | exact fun _ h => .tail _ (.tail _ (.tail _ (.tail _ (.tail _ (.tail _ h))))) | exact fun _ h => .tail _ (.tail _ (.tail _ (.tail _ (.tail _ (.tail _ (.tail _ h)))))) | exact fun _ h => .tail _ (.tail _ (.tail _ (.tail _ (.tail _ (.tail _ (.tail _ (.tail _ h))))))) | exact fun _ h => .tail _ (.tail _ (.tail _ (.tail _ (.tail _ (.tail _ (.tail _ (.tail _ (.tail _ h)))))))) | exact fun _ h => .tail _ (.tail _ (.tail _ (.tail _ (.tail _ (.tail _ (.tail _ (.tail _ (.tail _ (.tail _ h))))))))) | exact fun _ h => .tail _ (.tail _ (.tail _ (.tail _ (.tail _ (.tail _ (.tail _ (.tail _ (.tail _ (.tail _ (.tail _ h)))))))))) | exact fun _ h => .tail _ (.tail _ (.tail _ (.tail _ (.tail _ (.tail _ (.tail _ (.tail _ (.tail _ (.tail _ (.tail _ (.tail _ h))))))))))) | exact fun _ h => .tail _ (.tail _ (.tail _ (.tail _ (.tail _ (.tail _ (.tail _ (.tail _ (.tail _ (.tail _ (.tail _ (.tail _ (.tail _ h)))))))))))) | exact fun _ h => .tail _ (.tail _ (.tail _ (.tail _ (.tail _ (.tail _ (.tail _ (.tail _ (.tail _ (.tail _ (.tail _ (.tail _ (.tail _ (.tail _ h))))))))))))) | exact fun _ h => .tail _ (.tail _ (.tail _ (.tail _ (.tail _ (.tail _ (.tail _ (.tail _ (.tail _ (.tail _ (.tail _ (.tail _ (.tail _ (.tail _ (.tail _ h))))))))))))))) | exact Or.inl rfl); (case k3 => kun_tup); (case k5 => exact rfl); (case k6 => exact rfl); k_whole); intro h' F' N'; (try k_sweep)))
local macro_rules | `(tactic| walk_at "call builtin:min") => `(tactic| (k_here; (with_reducible show wpAny _ _ (call (Value.builtin _) [Value.int _ _, Value.int _ _]) _ _ _); k_dflt (refine' Mine.min_calm ?kA ?kC ?k1 ?k2 ?_; (case kA => exact rfl); (case k1 => k_asm); (case k2 => k_asm); (case kC => first | exact Mine.CalmN.at (by assumption) (by k_asm) (by first | exact fun _ h => h | exact fun _ h => .tail _ h | exact fun _ h => .tail _ (.tail _ h) | exact fun _ h => .tail _ (.tail _ (.tail _ h)) | exact fun _ h => .tail _ (.tail _ (.tail _ (.tail _ h))) | exact fun _ h => .tail _ (.tail _ (.tail _ (.tail _ (.tail _ h)))) | exact fun _ h => .tail _ (.tail _ (.tail _ (.tail _ (.tail _ (.tail _ h))))) | exact fun _ h => .tail _ (.tail _ (.tail _ (.tail _ (.tail _ (.tail _ (.tail _ h)))))) | exact fun _ h => .tail _ (.tail _ (.tail _ (.tail _ (.tail _ (.tail _ (.tail _ (.tail _ h))))))) | exact fun _ h => .tail _ (.tail _ (.tail _ (.tail _ (.tail _ (.tail _ (.tail _ (.tail _ (.tail _ h)))))))) | exact fun _ h => .tail _ (.tail _ (.tail _ (.tail _ (.tail _ (.tail _ (.tail _ (.tail _ (.tail _ (.tail _ h))))))))) | exact fun _ h => .tail _ (.tail _ (.tail _ (.tail _ (.tail _ (.tail _ (.tail _ (.tail _ (.tail _ (.tail _ (.tail _ h)))))))))) | exact fun _ h => .tail _ (.tail _ (.tail _ (.tail _ (.tail _ (.tail _ (.tail _ (.tail _ (.tail _ (.tail _ (.tail _ (.tail _ h))))))))))) | exact fun _ h => .tail _ (.tail _ (.tail _ (.tail _ (.tail _ (.tail _ (.tail _ (.tail _ (.tail _ (.tail _ (.tail _ (.tail _ (.tail _ h)))))))))))) | exact fun _ h => .tail _ (.tail _ (.tail _ (.tail _ (.tail _ (.tail _ (.tail _ (.tail _ (.tail _ (.tail _ (.tail _ (.tail _ (.tail _ (.tail _ h))))))))))))) | exact fun _ h => .tail _ (.tail _ (.tail _ (.tail _ (.tail _ (.tail _ (.tail _ (.tail _ (.tail _ (.tail _ (.tail _ (.tail _ (.tail _ (.tail _ (.tail _ h))))))))))))))) | exact Or.inl rfl); k_whole); intro h9 tk9 F9 N9; (try dsimp only)))
local macro_rules | `(tactic| walk_at "call builtin:max") => `(tactic| (k_here; (with_reducible show wpAny _ _ (call (Value.builtin _) [Value.int _ _, Value.int _ _]) _ _ _); k_dflt (refine' Mine.max_wc ?kA ?kC ?k1 ?k2 ?_; (case kA => exact rfl); (case k1 => k_asm); (case k2 => k_asm); (case kC => first | exact Mine.CalmN.at (by assumption) (by k_asm) (by first | exact fun _ h => h | exact fun _ h => .tail _ h | exact fun _ h => .tail _ (.tail _ h) | exact fun _ h => .tail _ (.tail _ (.tail _ h)) | exact fun _ h => .tail _ (.tail _ (.tail _ (.tail _ h))) | exact fun _ h => .tail _ (.tail _ (.tail _ (.tail _ (.tail _ h)))) | exact fun _ h => .tail _ (.tail _ (.tail _ (.tail _ (.tail _ (.tail _ h))))) | exact fun _ h => .tail _ (.tail _ (.tail _ (.tail _ (.tail _ (.tail _ (.tail _ h)))))) | exact fun _ h => .tail _ (.tail _ (.tail _ (.tail _ (.tail _ (.tail _ (.tail _ (.tail _ h))))))) | exact fun _ h => .tail _ (.tail _ (.tail _ (.tail _ (.tail _ (.tail _ (.tail _ (.tail _ (.tail _ h)))))))) | exact fun _ h => .tail _ (.tail _ (.tail _ (.tail _ (.tail _ (.tail _ (.tail _ (.tail _ (.tail _ (.tail _ h))))))))) | exact fun _ h => .tail _ (.tail _ (.tail _ (.tail _ (.tail _ (.tail _ (.tail _ (.tail _ (.tail _ (.tail _ (.tail _ h)))))))))) | exact fun _ h => .tail _ (.tail _ (.tail _ (.tail _ (.tail _ (.tail _ (.tail _ (.tail _ (.tail _ (.tail _ (.tail _ (.tail _ h))))))))))) | exact fun _ h => .tail _ (.tail _ (.tail _ (.tail _ (.tail _ (.tail _ (.tail _ (.tail _ (.tail _ (.tail _ (.tail _ (.tail _ (.tail _ h)))))))))))) | exact fun _ h => .tail _ (.tail _ (.tail _ (.tail _ (.tail _ (.tail _ (.tail _ (.tail _ (.tail _ (.tail _ (.tail _ (.tail _ (.tail _ (.tail _ h))))))))))))) | exact fun _ h => .tail _ (.tail _ (.tail _ (.tail _ (.tail _ (.tail _ (.tail _ (.tail _ (.tail _ (.tail _ (.tail _ (.tail _ (.tail _ (.tail _ (.tail _ h))))))))))))))) | exact Or.inl rfl); k_whole); intro v9 h9 tk9 F9 N9; (try dsimp only)))
local macro_rules | `(tactic| walk_at "exec Assert") => `(tactic| (refine Mine.assert_holds ?_))

namespace Mine
def TInv (w0 p0 w p : Int) : Prop := 0 < w ∧ sM w = sM w0 ∧ p + tz w = p0 + tz w0
theorem tinv_keep {w0 p0 w p : Int} (h : TInv w0 p0 w p) (h2 : w.fmod 2 = 0) : TInv w0 p0 (w.fdiv 2) (p + 1) := by
  obtain ⟨h0, h1, h3⟩ := h
  have ⟨f1, f2, _⟩ := fdiv_fmod_facts w 2
  have hp : 0 < w.fdiv 2 := by omega
  have e : w = 2 ^ 1 * w.fdiv 2 := by omega
  have ⟨k1, k2⟩ := sM_mul hp 1
  rw [← e] at k1 k2
  exact ⟨hp, by rw [← k1]; exact h1, by omega⟩
theorem tinv_meas {w0 p0 w p : Int} (h : TInv w0 p0 w p) (h2 : w.fmod 2 = 0) : (w.fdiv 2).toNat < w.toNat := by
  have := h.1
  have ⟨f1, f2, _⟩ := fdiv_fmod_facts w 2
  omega
theorem tinv_end {w0 p0 w p : Int} (h : TInv w0 p0 w p) (h2 : ¬ w.fmod 2 = 0) : w = sM w0 ∧ p = p0 + tz w0 ∧ ((Builtin.Int.intBits w : Nat) : Int) = Builtin.Int.intBits (sM w0) := by
  obtain ⟨h0, h1, h3⟩ := h
  have ⟨f1, f2, f3, _⟩ := fdiv_fmod_facts w 2
  have f3 := f3 (by decide)
  have ⟨k1, k2⟩ := sM_odd h0 (by omega)
  rw [← h1, k1]
  exact ⟨rfl, by omega, rfl⟩
set_option maxRecDepth 100000 in
set_option maxHeartbeats 8000000 in
theorem c_told (w : World) (news : List (Addr × Obj)) (whole power : Int) (t u : Tok) (hw : 0 < whole) :
    Ctr w 155 1 news [.int whole t, .int power u] (RetT4 news 0 (sM whole) (power + tz whole) (Builtin.Int.intBits (sM whole))) := by
  w_top off
  dsimp only [Ctr, RetI, RetT2, RetT4, RetB, RetZ]
  k_fill
  intro pp loose mean mg mb dp un gd cn cs a ccd cl outer A₀ base h₀ L m s hxx Q E B F X N T hk hdp hu hcalm hret
  refine wpAny_call ?_
  k_dflt (refine' code_def ?k1 ?k2 ?k3 ?k4 ?k5 ?kA ?kF ?kK ?k6 ?k7 ?k8 ?k9 ?kB ?_ ?c2 ?c3 ?c4 ?c5; (case kA => exact rfl); (case kF => exact rfl); (case kK => assumption); (case k1 => k_asm); (case k2 => k_asm); (case k3 => k_asm); (case k4 => k_asm); (case k5 => k_asm); (case k6 => k_is); (case k7 => k_is); (case k8 => first | ((try dsimp only [Mine.ktrX]); (try simp only [depth_under_make, depth_under_kw, depth_in1, depth_deeper, depth_caller]); (try dsimp only [Mine.ktrX]); omega) | ((try dsimp only [Mine.ktrX] at *); ktr_room)); (case k9 => first | exact BindsTo.of_eq rfl | exact binds_K (by k_in) rfl (by k_is) rfl rfl rfl); (case c5 => decide); (case kB => exact locs rfl); (case c2 => exact rfl); (case c3 => exact rfl); (case c4 => exact rfl); k_whole; intro g' L' h' FG' F' N' B' X' T'; (try dsimp only); (try k_lift B'); (try k_fold))
  k_with_none
  (k_with "exec While Compare cons nil" => k_while (fun _ w p => TInv whole power w p) (fun _ w _ => w.toNat) "whole" "power")
  (k_with "state" => first | exact ⟨hw, rfl, rfl⟩ | exact tinv_keep (by assumption) (by assumption))
  (k_with "measure" => exact tinv_meas (by assumption) (by assumption))
  k_steps
  all_goals first
    | (exfalso; omega)
    | (rename Fr _ _ _ _ => lF; rename News _ _ _ _ => lN; exact retT4_end hret rfl (tinv_end (by assumption) (by assumption)).1 (tinv_end (by assumption) (by assumption)).2.1 (tinv_end (by assumption) (by assumption)).2.2 lF lN (by k_mem) (by first | exact fun _ h => .tail _ h | exact fun _ h => h | exact fun _ h => .tail _ (.tail _ h) | exact fun _ h => .tail _ (.tail _ (.tail _ h)) | exact fun _ h => .tail _ (.tail _ (.tail _ (.tail _ h))) | exact fun _ h => .tail _ (.tail _ (.tail _ (.tail _ (.tail _ h))))))
set_option maxRecDepth 100000 in
set_option maxHeartbeats 8000000 in
theorem c_told0 (w : World) (news : List (Addr × Obj)) (whole power : Int) (t u : Tok) (hw : whole = 0) :
    Ctr w 155 1 news [.int whole t, .int power u] (RetT4 news 0 0 0 0) := by
  subst hw
  w_top off
  dsimp only [Ctr, RetI, RetT2, RetT4, RetB, RetZ]
  k_fill
  intro pp loose mean mg mb dp un gd cn cs a ccd cl outer A₀ base h₀ L m s hxx Q E B F X N T hk hdp hu hcalm hret
  refine wpAny_call ?_
  k_dflt (refine' code_def ?k1 ?k2 ?k3 ?k4 ?k5 ?kA ?kF ?kK ?k6 ?k7 ?k8 ?k9 ?kB ?_ ?c2 ?c3 ?c4 ?c5; (case kA => exact rfl); (case kF => exact rfl); (case kK => assumption); (case k1 => k_asm); (case k2 => k_asm); (case k3 => k_asm); (case k4 => k_asm); (case k5 => k_asm); (case k6 => k_is); (case k7 => k_is); (case k8 => first | ((try dsimp only [Mine.ktrX]); (try simp only [depth_under_make, depth_under_kw, depth_in1, depth_deeper, depth_caller]); (try dsimp only [Mine.ktrX]); omega) | ((try dsimp only [Mine.ktrX] at *); ktr_room)); (case k9 => first | exact BindsTo.of_eq rfl | exact binds_K (by k_in) rfl (by k_is) rfl rfl rfl); (case c5 => decide); (case kB => exact locs rfl); (case c2 => exact rfl); (case c3 => exact rfl); (case c4 => exact rfl); k_whole; intro g' L' h' FG' F' N' B' X' T'; (try dsimp only); (try k_lift B'); (try k_fold))
  k_with_none
  k_steps
  all_goals first
    | (rename Fr _ _ _ _ => lF; rename News _ _ _ _ => lN; exact retT4_end hret rfl rfl rfl rfl lF lN (by k_mem) (by first | exact fun _ h => .tail _ h | exact fun _ h => h | exact fun _ h => .tail _ (.tail _ h) | exact fun _ h => .tail _ (.tail _ (.tail _ h)) | exact fun _ h => .tail _ (.tail _ (.tail _ (.tail _ h))) | exact fun _ h => .tail _ (.tail _ (.tail _ (.tail _ (.tail _ h))))))
end Mine

end
section
local macro_rules | `(tactic| walk_at "none 0") => `(tactic| fail)
local macro_rules | `(tactic| walk_at "none 1") => `(tactic| fail)
local macro_rules | `(tactic| walk_at "none 2") => `(tactic| fail)
local macro_rules | `(tactic| walk_at "binaryOp LShift int int") => `(tactic| (refine PyProof.Rows.lshift_int ?_ ?_ ?_; rotate_left 2))
local macro_rules | `(tactic| walk_at "binaryOp FloorDiv int int") => `(tactic| (refine PyProof.Rows.floordiv_int (Mine.ninv_pos (by assumption)) ?_ (Or.inl (PyProof.noPylong_of_log2 (Mine.ninv_log (by assumption))))))
local macro_rules | `(tactic| walk_at "binaryOp Mult int int") => `(tactic| (refine PyProof.Rows.mul_int ?_ ?_; (try dsimp only)))
local macro_rules | `(tactic| walk_at "binaryOp Pow int int") => `(tactic| (refine PyProof.Rows.pow_int ?_ ?_ ?_; rotate_left 2; (try dsimp only)))
local macro_rules | `(tactic| walk_at "execs cons") => `(tactic| (with_reducible (refine Mine.gen_toks ?_; intro tk; refine wpAny_execs_cons ?_); (try dsimp only)))
local macro_rules | `(tactic| walk_at "execs nil") => `(tactic| (with_reducible (refine Mine.gen_toks ?_; intro tk; refine wpAny_execs_nil ?_); (try dsimp only)))
local macro_rules | `(tactic| walk_at "unpackItems ref") => `(tactic| (k_here; k_dflt (refine' Mine.unpack_calm ?kA ?kC ?k1 ?k2 ?k3 ?k5 ?_; (case kA => exact rfl); (case k1 => k_asm); (case k2 => k_asm); (case kC => first | exact Mine.CalmN.at (by assumption) (by k_asm) (by first | exact fun _ h => h | exact fun _ h => .tail _ h | exact fun _ h => .tail _ (.tail _ h) | exact fun _ h => .tail _ (.tail _ (.tail _ h)) | exact fun _ h => .tail _ (.tail _ (.tail _ (.tail _ h))) | exact fun _ h => .tail _ (.tail _ (.tail _ (.tail _ (.tail _ h)))) | exact fun _ h => .tail _ (.tail _ (.tail _ (.tail _ (.tail _ (.tail _ h))))) | exact fun _ h => .tail _ (.tail _ (.tail _ (.tail _ (.tail _ (.tail _ (.tail _ h)))))) | exact fun _ h => .tail _ (.tail _ (.tail _ (.tail _ (.tail _ (.tail _ (.tail _ (.tail _ h))))))) | exact fun _ h => .tail _ (.tail _ (.tail _ (.tail _ (.tail _ (.tail _ (.tail _ (.tail _ (.tail _ h)))))))) | exact fun _ h => .tail _ (.tail _ (.tail _ (.tail _ (.tail _ (.tail _ (.tail _ (.tail _ (.tail _ (.tail _ h))))))))) | exact fun _ h => .tail _ (.tail _ (.tail _ (.tail _ (.tail _ (.tail _ (.tail _ (.tail _ (.tail _ (.tail _ (.tail _ h)))))))))) | exact fun _ h => .tail _ (.tail _ (.tail _ (.tail _ (.tail _ (.tail _ (.tail _ (.tail _ (.tail _ (.tail _ (.tail _ (.tail _ h))))))))))) | exact fun _ h => .tail _ (.tail _ (.tail _ (.tail _ (.tail _ (.tail _ (.tail _ (.tail _ (.tail _ (.tail _ (.tail _ (.tail _ (.tail _ h)))))))))))) | exact fun _ h => .tail _ (.tail _ (.tail _ (.tail _ (.tail _ (.tail _ (.tail _ (.tail _ (.tail _ (.tail _ (.tail _ (.tail _ (.tail _ (.tail _ h))))))))))))) | exact fun _ h => .tail _ (.tail _ (.tail _ (.tail _ (.tail _ (.tail _ (.tail _ (.tail _ (.tail _ (.tail _ (.tail _ (.tail _ (.tail _ (.tail _ (.tail _ h))))))))))))))) | exact Or.inl rfl); (case k3 => kun_tup); (case k5 => exact rfl); k_whole); intro h' F' N'; (try k_sweep)))
local macro_rules | `(tactic| walk_at "assign Tuple") => `(tactic| (k_here; (with_reducible show wpAny _ _ (assign (Expr.Tuple _ _ _) _ (Value.ref _)) _ _ _); k_dflt (refine' Mine.assign_calm ?kA ?kC ?k1 ?k2 ?k3 ?k5 ?k6 ?_; (case kA => exact rfl); (case k1 => k_asm); (case k2 => k_asm); (case kC => first | exact Mine.CalmN.at (by assumption) (by k_asm) (by first | exact fun _ h => h | exact fun _ h => .tail _ h | exact fun _ h => .tail _ (.tail _ h) | exact fun _ h => .tail _ (.tail _ (.tail _ h)) | exact fun _ h => .tail _ (.tail _ (.tail _ (.tail _ h))) | exact fun _ h => .tail _ (.tail _ (.tail _ (.tail _ (.tail _ h)))) | exact fun _ h => .tail _ (.tail _ (.tail _ (.tail _ (.tail _ (.tail _ h))))) | exact fun _ h => .tail _ (.tail _ (.tail _ (.tail _ (.tail _ (.tail _ (.tail _ h)))))) | exact fun _ h => .tail _ (.tail _ (.tail _ (.tail _ (.tail _ (.tail _ (.tail _ (.tail _ h))))))) | exact fun _ h => .tail _ (.tail _ (.tail _ (.tail _ (.tail _ (.tail _ (.tail _ (.tail _ (.tail _ h)))))))) | exact fun _ h => .tail _ (.tail _ (.tail _ (.tail _ (.tail _ (.tail _ (.tail _ (.tail _ (.tail _ (.tail _ h))))))))) | exact fun _ h => .tail _ (.tail _ (.tail _ (.tail _ (.tail _ (.tail _ (.tail _ (.tail _ (.tail _ (.tail _ (.tail _ h)))))))))) | exact fun _ h => .tail _ (.tail _ (.tail _ (.tail _ (.tail _ (.tail _ (.tail _ (.tail _ (.tail _ (.tail _ (.tail _ (.tail _ h))))))))))) | exact fun _ h => .tail _ (.tail _ (.tail _ (.tail _ (.tail _ (.tail _ (.tail _ (.tail _ (.tail _ (.tail _ (.tail _ (.tail _ (.tail _ h)))))))))))) | exact fun _ h => .tail _ (.tail _ (.tail _ (.tail _ (.tail _ (.tail _ (.tail _ (.tail _ (.tail _ (.tail _ (.tail _ (.tail _ (.tail _ (.tail _ h))))))))))))) | exact fun _ h => .tail _ (.tail _ (.tail _ (.tail _ (.tail _ (.tail _ (.tail _ (.tail _ (.tail _ (.tail _ (.tail _ (.tail _ (.tail _ (.tail _ (.tail _ h))))))))))))))) | exact Or.inl rfl); (case k3 => kun_tup); (case k5 => exact rfl); (case k6 => exact rfl); k_whole); intro h' F' N'; (try k_sweep)))
local macro_rules | `(tactic| walk_at "call builtin:min") => `(tactic| (k_here; (with_reducible show wpAny _ _ (call (Value.builtin _) [Value.int _ _, Value.int _ _]) _ _ _); k_dflt (refine' Mine.min_calm ?kA ?kC ?k1 ?k2 ?_; (case kA => exact rfl); (case k1 => k_asm); (case k2 => k_asm); (case kC => first | exact Mine.CalmN.at (by assumption) (by k_asm) (by first | exact fun _ h => h | exact fun _ h => .tail _ h | exact fun _ h => .tail _ (.tail _ h) | exact fun _ h => .tail _ (.tail _ (.tail _ h)) | exact fun _ h => .tail _ (.tail _ (.tail _ (.tail _ h))) | exact fun _ h => .tail _ (.tail _ (.tail _ (.tail _ (.tail _ h)))) | exact fun _ h => .tail _ (.tail _ (.tail _ (.tail _ (.tail _ (.tail _ h))))) | exact fun _ h => .tail _ (.tail _ (.tail _ (.tail _ (.tail _ (.tail _ (.tail _ h)))))) | exact fun _ h => .tail _ (.tail _ (.tail _ (.tail _ (.tail _ (.tail _ (.tail _ (.tail _ h))))))) | exact fun _ h => .tail _ (.tail _ (.tail _ (.tail _ (.tail _ (.tail _ (.tail _ (.tail _ (.tail _ h)))))))) | exact fun _ h => .tail _ (.tail _ (.tail _ (.tail _ (.tail _ (.tail _ (.tail _ (.tail _ (.tail _ (.tail _ h))))))))) | exact fun _ h => .tail _ (.tail _ (.tail _ (.tail _ (.tail _ (.tail _ (.tail _ (.tail _ (.tail _ (.tail _ (.tail _ h)))))))))) | exact fun _ h => .tail _ (.tail _ (.tail _ (.tail _ (.tail _ (.tail _ (.tail _ (.tail _ (.tail _ (.tail _ (.tail _ (.tail _ h))))))))))) | exact fun _ h => .tail _ (.tail _ (.tail _ (.tail _ (.tail _ (.tail _ (.tail _ (.tail _ (.tail _ (.tail _ (.tail _ (.tail _ (.tail _ h)))))))))))) | exact fun _ h => .tail _ (.tail _ (.tail _ (.tail _ (.tail _ (.tail _ (.tail _ (.tail _ (.tail _ (.tail _ (.tail _ (.tail _ (.tail _ (.tail _ h))))))))))))) | exact fun _ h => .tail _ (.tail _ (.tail _ (.tail _ (.tail _ (.tail _ (.tail _ (.tail _ (.tail _ (.tail _ (.tail _ (.tail _ (.tail _ (.tail _ (.tail _ h))))))))))))))) | exact Or.inl rfl); k_whole); intro h9 tk9 F9 N9; (try dsimp only)))
local macro_rules | `(tactic| walk_at "call builtin:max") => `(tactic| (k_here; (with_reducible show wpAny _ _ (call (Value.builtin _) [Value.int _ _, Value.int _ _]) _ _ _); k_dflt (refine' Mine.max_wc ?kA ?kC ?k1 ?k2 ?_; (case kA => exact rfl); (case k1 => k_asm); (case k2 => k_asm); (case kC => first | exact Mine.CalmN.at (by assumption) (by k_asm) (by first | exact fun _ h => h | exact fun _ h => .tail _ h | exact fun _ h => .tail _ (.tail _ h) | exact fun _ h => .tail _ (.tail _ (.tail _ h)) | exact fun _ h => .tail _ (.tail _ (.tail _ (.tail _ h))) | exact fun _ h => .tail _ (.tail _ (.tail _ (.tail _ (.tail _ h)))) | exact fun _ h => .tail _ (.tail _ (.tail _ (.tail _ (.tail _ (.tail _ h))))) | exact fun _ h => .tail _ (.tail _ (.tail _ (.tail _ (.tail _ (.tail _ (.tail _ h)))))) | exact fun _ h => .tail _ (.tail _ (.tail _ (.tail _ (.tail _ (.tail _ (.tail _ (.tail _ h))))))) | exact fun _ h => .tail _ (.tail _ (.tail _ (.tail _ (.tail _ (.tail _ (.tail _ (.tail _ (.tail _ h)))))))) | exact fun _ h => .tail _ (.tail _ (.tail _ (.tail _ (.tail _ (.tail _ (.tail _ (.tail _ (.tail _ (.tail _ h))))))))) | exact fun _ h => .tail _ (.tail _ (.tail _ (.tail _ (.tail _ (.tail _ (.tail _ (.tail _ (.tail _ (.tail _ (.tail _ h)))))))))) | exact fun _ h => .tail _ (.tail _ (.tail _ (.tail _ (.tail _ (.tail _ (.tail _ (.tail _ (.tail _ (.tail _ (.tail _ (.tail _ h))))))))))) | exact fun _ h => .tail _ (.tail _ (.tail _ (.tail _ (.tail _ (.tail _ (.tail _ (.tail _ (.tail _ (.tail _ (.tail _ (.tail _ (.tail _ h)))))))))))) | exact fun _ h => .tail _ (.tail _ (.tail _ (.tail _ (.tail _ (.tail _ (.tail _ (.tail _ (.tail _ (.tail _ (.tail _ (.tail _ (.tail _ (.tail _ h))))))))))))) | exact fun _ h => .tail _ (.tail _ (.tail _ (.tail _ (.tail _ (.tail _ (.tail _ (.tail _ (.tail _ (.tail _ (.tail _ (.tail _ (.tail _ (.tail _ (.tail _ h))))))))))))))) | exact Or.inl rfl); k_whole); intro v9 h9 tk9 F9 N9; (try dsimp only)))
local macro_rules | `(tactic| walk_at "exec Assert") => `(tactic| (refine Mine.assert_holds ?_))

namespace Mine
/-- the script's number at a place -/
@[irreducible] def numv (ns : List Int) (i : Int) : Int := if i < ns.length then ns.getD i.toNat 0 else 37 * i + 11
theorem numv_in {ns : List Int} {i : Int} (h : i < ns.length) : ns.getD i.toNat 0 = numv ns i := by unfold numv; rw [if_pos h]
theorem numv_out {ns : List Int} {i : Int} (h : ¬ i < ns.length) : 37 * i + 11 = numv ns i := by unfold numv; rw [if_neg h]
theorem item_ints {prog : Program} {w : World} {A : Around} {E : Value → Shared → Prop} {s : Shared} {h₀ : Heap} {L : Addr} {news : List (Addr × Obj)} {value slice : PySem.Expr} {l : Addr} {ws : List Value} {n : Nat} {ns : List Int} {k : Int} {u : Tok} {Q : Value → Shared → Prop}
    (N : News h₀ L s.heap news) (hm : (l, W.listOf ws.toArray n) ∈ news) (hI : IntsAre ws ns) (h0 : 0 ≤ k) (h1 : k < ns.length) (hl : ns.length ≤ 1000) (h : ∀ t, Q (.int (ns.getD k.toNat 0) t) s)
    (hs : subscripted slice false (.ref l) (.int k u) = operate [.ref l, .int k u] (getItem (.ref l) (.int k u)) := by with_unfolding_all rfl) (hg : ∀ r, letTemporaryGo value (.ref l) r = pure () := by intro _; with_unfolding_all rfl) :
    wpAny (model prog w) A (subscriptTail value slice (.ref l) (.int k u)) Q E s := by
  have hlt : k.toNat < ns.length := by omega
  obtain ⟨t, hx⟩ := hI.get k.toNat ns[k.toNat] (by simp [hlt])
  have e : ns.getD k.toNat 0 = ns[k.toNat] := by simp [hlt]
  refine PyProof.Rows.item_list (items := ws.toArray) ⟨_, (N _ hm).1, rfl, n, rfl⟩ h0 (by omega) (by simpa using hx) ?_ hs hg
  rw [← e]
  exact h t
local macro_rules | `(tactic| walk_at "call builtin:len") => `(tactic| (k_here; (with_reducible show wpAny _ _ (call (Value.builtin "len") [Value.ref _]) _ _ _); k_dflt (refine' kst_len ?k1 ?k2 ?k3 ?k4 ?_; (case k1 => k_asm); (case k2 => k_mem); (case k3 => exact IntsAre.length (by assumption)); (case k4 => omega); k_whole)))
local macro_rules | `(tactic| walk_at "subscriptTail Name Name ref int") => `(tactic| (k_here; k_dflt (refine' Mine.item_ints ?k1 ?k2 ?k3 ?k4 ?k5 ?k6 ?_ ?k7 ?k8; (case k1 => k_asm); (case k2 => k_mem); (case k3 => assumption); (case k4 => omega); (case k5 => omega); (case k6 => omega); (case k7 => with_unfolding_all rfl); (case k8 => intro _; with_unfolding_all rfl); k_whole); intro t9))
set_option maxRecDepth 100000 in
set_option maxHeartbeats 8000000 in
theorem c_number (w : World) (news : List (Addr × Obj)) (l : Addr) (ws : List Value) (n : Nat) (ns : List Int) (i : Int) (t : Tok) (hm : (l, W.listOf ws.toArray n) ∈ news) (hI : IntsAre ws ns) (hl : ns.length ≤ 1000) (h0 : 0 ≤ i) (h1 : i ≤ 1000) :
    Ctr w 148 1 news [.ref l, .int i t] (RetI news (numv ns i)) := by
  w_top off
  dsimp only [Ctr, RetI, RetT2, RetT4, RetB, RetZ]
  k_fill
  intro pp loose mean mg mb dp un gd cn cs a ccd cl outer A₀ base h₀ L m s hxx Q E B F X N T hk hdp hu hcalm hret
  refine wpAny_call ?_
  k_dflt (refine' code_def ?k1 ?k2 ?k3 ?k4 ?k5 ?kA ?kF ?kK ?k6 ?k7 ?k8 ?k9 ?kB ?_ ?c2 ?c3 ?c4 ?c5; (case kA => exact rfl); (case kF => exact rfl); (case kK => assumption); (case k1 => k_asm); (case k2 => k_asm); (case k3 => k_asm); (case k4 => k_asm); (case k5 => k_asm); (case k6 => k_is); (case k7 => k_is); (case k8 => first | ((try dsimp only [Mine.ktrX]); (try simp only [depth_under_make, depth_under_kw, depth_in1, depth_deeper, depth_caller]); (try dsimp only [Mine.ktrX]); omega) | ((try dsimp only [Mine.ktrX] at *); ktr_room)); (case k9 => first | exact BindsTo.of_eq rfl | exact binds_K (by k_in) rfl (by k_is) rfl rfl rfl); (case c5 => decide); (case kB => exact locs rfl); (case c2 => exact rfl); (case c3 => exact rfl); (case c4 => exact rfl); k_whole; intro g' L' h' FG' F' N' B' X' T'; (try dsimp only); (try k_lift B'); (try k_fold))
  k_with_none
  have hlen := IntsAre.length hI
  k_steps
  all_goals first
    | (rename Fr _ _ _ _ => lF; rename News _ _ _ _ => lN; exact retI_end hret (numv_in (by omega)) lF lN (by first | exact fun _ h => .tail _ h | exact fun _ h => h | exact fun _ h => .tail _ (.tail _ h) | exact fun _ h => .tail _ (.tail _ (.tail _ h)) | exact fun _ h => .tail _ (.tail _ (.tail _ (.tail _ h))) | exact fun _ h => .tail _ (.tail _ (.tail _ (.tail _ (.tail _ h))))))
    | (rename Fr _ _ _ _ => lF; rename News _ _ _ _ => lN; exact retI_end hret (numv_out (by omega)) lF lN (by first | exact fun _ h => .tail _ h | exact fun _ h => h | exact fun _ h => .tail _ (.tail _ h) | exact fun _ h => .tail _ (.tail _ (.tail _ h)) | exact fun _ h => .tail _ (.tail _ (.tail _ (.tail _ h))) | exact fun _ h => .tail _ (.tail _ (.tail _ (.tail _ (.tail _ h))))))
    | exact IntMulOk.of_left (by decide)
end Mine

end
section
local macro_rules | `(tactic| walk_at "none 0") => `(tactic| fail)
local macro_rules | `(tactic| walk_at "none 1") => `(tactic| fail)
local macro_rules | `(tactic| walk_at "none 2") => `(tactic| fail)
local macro_rules | `(tactic| walk_at "none 3") => `(tactic| fail)
local macro_rules | `(tactic| walk_at "none 4") => `(tactic| fail)
local macro_rules | `(tactic| walk_at "binaryOp LShift int int") => `(tactic| (refine PyProof.Rows.lshift_int ?_ ?_ ?_; rotate_left 2))
local macro_rules | `(tactic| walk_at "binaryOp FloorDiv int int") => `(tactic| (refine PyProof.Rows.floordiv_int (Mine.ninv_pos (by assumption)) ?_ (Or.inl (PyProof.noPylong_of_log2 (Mine.ninv_log (by assumption))))))
local macro_rules | `(tactic| walk_at "binaryOp Mult int int") => `(tactic| (refine PyProof.Rows.mul_int ?_ ?_; (try dsimp only)))
local macro_rules | `(tactic| walk_at "binaryOp Pow int int") => `(tactic| (refine PyProof.Rows.pow_int ?_ ?_ ?_; rotate_left 2; (try dsimp only)))
local macro_rules | `(tactic| walk_at "execs cons") => `(tactic| (with_reducible (refine Mine.gen_toks ?_; intro tk; refine wpAny_execs_cons ?_); (try dsimp only)))
local macro_rules | `(tactic| walk_at "execs nil") => `(tactic| (with_reducible (refine Mine.gen_toks ?_; intro tk; refine wpAny_execs_nil ?_); (try dsimp only)))
local macro_rules | `(tactic| walk_at "unpackItems ref") => `(tactic| (k_here; k_dflt (refine' Mine.unpack_calm ?kA ?kC ?k1 ?k2 ?k3 ?k5 ?_; (case kA => exact rfl); (case k1 => k_asm); (case k2 => k_asm); (case kC => first | exact Mine.CalmN.at (by assumption) (by k_asm) (by first | exact fun _ h => h | exact fun _ h => .tail _ h | exact fun _ h => .tail _ (.tail _ h) | exact fun _ h => .tail _ (.tail _ (.tail _ h)) | exact fun _ h => .tail _ (.tail _ (.tail _ (.tail _ h))) | exact fun _ h => .tail _ (.tail _ (.tail _ (.tail _ (.tail _ h)))) | exact fun _ h => .tail _ (.tail _ (.tail _ (.tail _ (.tail _ (.tail _ h))))) | exact fun _ h => .tail _ (.tail _ (.tail _ (.tail _ (.tail _ (.tail _ (.tail _ h)))))) | exact fun _ h => .tail _ (.tail _ (.tail _ (.tail _ (.tail _ (.tail _ (.tail _ (.tail _ h))))))) | exact fun _ h => .tail _ (.tail _ (.tail _ (.tail _ (.tail _ (.tail _ (.tail _ (.tail _ (.tail _ h)))))))) | exact fun _ h => .tail _ (.tail _ (.tail _ (.tail _ (.tail _ (.tail _ (.tail _ (.tail _ (.tail _ (.tail _ h))))))))) | exact fun _ h => .tail _ (.tail _ (.tail _ (.tail _ (.tail _ (.tail _ (.tail _ (.tail _ (.tail _ (.tail _ (.tail _ h)))))))))) | exact fun _ h => .tail _ (.tail _ (.tail _ (.tail _ (.tail _ (.tail _ (.tail _ (.tail _ (.tail _ (.tail _ (.tail _ (.tail _ h))))))))))) | exact fun _ h => .tail _ (.tail _ (.tail _ (.tail _ (.tail _ (.tail _ (.tail _ (.tail _ (.tail _ (.tail _ (.tail _ (.tail _ (.tail _ h)))))))))))) | exact fun _ h => .tail _ (.tail _ (.tail _ (.tail _ (.tail _ (.tail _ (.tail _ (.tail _ (.tail _ (.tail _ (.tail _ (.tail _ (.tail _ (.tail _ h))))))))))))) | exact fun _ h => .tail _ (.tail _ (.tail _ (.tail _ (.tail _ (.tail _ (.tail _ (.tail _ (.tail _ (.tail _ (.tail _ (.tail _ (.tail _ (.tail _ (.tail _ h))))))))))))))) | exact Or.inl rfl); (case k3 => kun_tup); (case k5 => exact rfl); k_whole); intro h' F' N'; (try k_sweep)))
local macro_rules | `(tactic| walk_at "assign Tuple") => `(tactic| (k_here; (with_reducible show wpAny _ _ (assign (Expr.Tuple _ _ _) _ (Value.ref _)) _ _ _); k_dflt (refine' Mine.assign_calm ?kA ?kC ?k1 ?k2 ?k3 ?k5 ?k6 ?_; (case kA => exact rfl); (case k1 => k_asm); (case k2 => k_asm); (case kC => first | exact Mine.CalmN.at (by assumption) (by k_asm) (by first | exact fun _ h => h | exact fun _ h => .tail _ h | exact fun _ h => .tail _ (.tail _ h) | exact fun _ h => .tail _ (.tail _ (.tail _ h)) | exact fun _ h => .tail _ (.tail _ (.tail _ (.tail _ h))) | exact fun _ h => .tail _ (.tail _ (.tail _ (.tail _ (.tail _ h)))) | exact fun _ h => .tail _ (.tail _ (.tail _ (.tail _ (.tail _ (.tail _ h))))) | exact fun _ h => .tail _ (.tail _ (.tail _ (.tail _ (.tail _ (.tail _ (.tail _ h)))))) | exact fun _ h => .tail _ (.tail _ (.tail _ (.tail _ (.tail _ (.tail _ (.tail _ (.tail _ h))))))) | exact fun _ h => .tail _ (.tail _ (.tail _ (.tail _ (.tail _ (.tail _ (.tail _ (.tail _ (.tail _ h)))))))) | exact fun _ h => .tail _ (.tail _ (.tail _ (.tail _ (.tail _ (.tail _ (.tail _ (.tail _ (.tail _ (.tail _ h))))))))) | exact fun _ h => .tail _ (.tail _ (.tail _ (.tail _ (.tail _ (.tail _ (.tail _ (.tail _ (.tail _ (.tail _ (.tail _ h)))))))))) | exact fun _ h => .tail _ (.tail _ (.tail _ (.tail _ (.tail _ (.tail _ (.tail _ (.tail _ (.tail _ (.tail _ (.tail _ (.tail _ h))))))))))) | exact fun _ h => .tail _ (.tail _ (.tail _ (.tail _ (.tail _ (.tail _ (.tail _ (.tail _ (.tail _ (.tail _ (.tail _ (.tail _ (.tail _ h)))))))))))) | exact fun _ h => .tail _ (.tail _ (.tail _ (.tail _ (.tail _ (.tail _ (.tail _ (.tail _ (.tail _ (.tail _ (.tail _ (.tail _ (.tail _ (.tail _ h))))))))))))) | exact fun _ h => .tail _ (.tail _ (.tail _ (.tail _ (.tail _ (.tail _ (.tail _ (.tail _ (.tail _ (.tail _ (.tail _ (.tail _ (.tail _ (.tail _ (.tail _ h))))))))))))))) | exact Or.inl rfl); (case k3 => kun_tup); (case k5 => exact rfl); (case k6 => exact rfl); k_whole); intro h' F' N'; (try k_sweep)))
local macro_rules | `(tactic| walk_at "call builtin:min") => `(tactic| (k_here; (with_reducible show wpAny _ _ (call (Value.builtin _) [Value.int _ _, Value.int _ _]) _ _ _); k_dflt (refine' Mine.min_calm ?kA ?kC ?k1 ?k2 ?_; (case kA => exact rfl); (case k1 => k_asm); (case k2 => k_asm); (case kC => first | exact Mine.CalmN.at (by assumption) (by k_asm) (by first | exact fun _ h => h | exact fun _ h => .tail _ h | exact fun _ h => .tail _ (.tail _ h) | exact fun _ h => .tail _ (.tail _ (.tail _ h)) | exact fun _ h => .tail _ (.tail _ (.tail _ (.tail _ h))) | exact fun _ h => .tail _ (.tail _ (.tail _ (.tail _ (.tail _ h)))) | exact fun _ h => .tail _ (.tail _ (.tail _ (.tail _ (.tail _ (.tail _ h))))) | exact fun _ h => .tail _ (.tail _ (.tail _ (.tail _ (.tail _ (.tail _ (.tail _ h)))))) | exact fun _ h => .tail _ (.tail _ (.tail _ (.tail _ (.tail _ (.tail _ (.tail _ (.tail _ h))))))) | exact fun _ h => .tail _ (.tail _ (.tail _ (.tail _ (.tail _ (.tail _ (.tail _ (.tail _ (.tail _ h)))))))) | exact fun _ h => .tail _ (.tail _ (.tail _ (.tail _ (.tail _ (.tail _ (.tail _ (.tail _ (.tail _ (.tail _ h))))))))) | exact fun _ h => .tail _ (.tail _ (.tail _ (.tail _ (.tail _ (.tail _ (.tail _ (.tail _ (.tail _ (.tail _ (.tail _ h)))))))))) | exact fun _ h => .tail _ (.tail _ (.tail _ (.tail _ (.tail _ (.tail _ (.tail _ (.tail _ (.tail _ (.tail _ (.tail _ (.tail _ h))))))))))) | exact fun _ h => .tail _ (.tail _ (.tail _ (.tail _ (.tail _ (.tail _ (.tail _ (.tail _ (.tail _ (.tail _ (.tail _ (.tail _ (.tail _ h)))))))))))) | exact fun _ h => .tail _ (.tail _ (.tail _ (.tail _ (.tail _ (.tail _ (.tail _ (.tail _ (.tail _ (.tail _ (.tail _ (.tail _ (.tail _ (.tail _ h))))))))))))) | exact fun _ h => .tail _ (.tail _ (.tail _ (.tail _ (.tail _ (.tail _ (.tail _ (.tail _ (.tail _ (.tail _ (.tail _ (.tail _ (.tail _ (.tail _ (.tail _ h))))))))))))))) | exact Or.inl rfl); k_whole); intro h9 tk9 F9 N9; (try dsimp only)))
local macro_rules | `(tactic| walk_at "call builtin:max") => `(tactic| (k_here; (with_reducible show wpAny _ _ (call (Value.builtin _) [Value.int _ _, Value.int _ _]) _ _ _); k_dflt (refine' Mine.max_wc ?kA ?kC ?k1 ?k2 ?_; (case kA => exact rfl); (case k1 => k_asm); (case k2 => k_asm); (case kC => first | exact Mine.CalmN.at (by assumption) (by k_asm) (by first | exact fun _ h => h | exact fun _ h => .tail _ h | exact fun _ h => .tail _ (.tail _ h) | exact fun _ h => .tail _ (.tail _ (.tail _ h)) | exact fun _ h => .tail _ (.tail _ (.tail _ (.tail _ h))) | exact fun _ h => .tail _ (.tail _ (.tail _ (.tail _ (.tail _ h)))) | exact fun _ h => .tail _ (.tail _ (.tail _ (.tail _ (.tail _ (.tail _ h))))) | exact fun _ h => .tail _ (.tail _ (.tail _ (.tail _ (.tail _ (.tail _ (.tail _ h)))))) | exact fun _ h => .tail _ (.tail _ (.tail _ (.tail _ (.tail _ (.tail _ (.tail _ (.tail _ h))))))) | exact fun _ h => .tail _ (.tail _ (.tail _ (.tail _ (.tail _ (.tail _ (.tail _ (.tail _ (.tail _ h)))))))) | exact fun _ h => .tail _ (.tail _ (.tail _ (.tail _ (.tail _ (.tail _ (.tail _ (.tail _ (.tail _ (.tail _ h))))))))) | exact fun _ h => .tail _ (.tail _ (.tail _ (.tail _ (.tail _ (.tail _ (.tail _ (.tail _ (.tail _ (.tail _ (.tail _ h)))))))))) | exact fun _ h => .tail _ (.tail _ (.tail _ (.tail _ (.tail _ (.tail _ (.tail _ (.tail _ (.tail _ (.tail _ (.tail _ (.tail _ h))))))))))) | exact fun _ h => .tail _ (.tail _ (.tail _ (.tail _ (.tail _ (.tail _ (.tail _ (.tail _ (.tail _ (.tail _ (.tail _ (.tail _ (.tail _ h)))))))))))) | exact fun _ h => .tail _ (.tail _ (.tail _ (.tail _ (.tail _ (.tail _ (.tail _ (.tail _ (.tail _ (.tail _ (.tail _ (.tail _ (.tail _ (.tail _ h))))))))))))) | exact fun _ h => .tail _ (.tail _ (.tail _ (.tail _ (.tail _ (.tail _ (.tail _ (.tail _ (.tail _ (.tail _ (.tail _ (.tail _ (.tail _ (.tail _ (.tail _ h))))))))))))))) | exact Or.inl rfl); k_whole); intro v9 h9 tk9 F9 N9; (try dsimp only)))
local macro_rules | `(tactic| walk_at "exec Assert") => `(tactic| (refine Mine.assert_holds ?_))

local macro_rules | `(tactic| walk_at "call ref") => `(tactic| (k_here; (with_reducible show wpAny _ _ (call (Value.ref 21) _) _ _ _); k_dflt (refine' Mine.Ctr.use (Mine.c_trailing _ _ _ _ ?_) ?k1 ?k2 ?k3 ?k4 ?k5 ?k6 ?k7 ?k8 ?k9 ?_; (case k1 => k_asm); (case k2 => k_asm); (case k3 => k_asm); (case k4 => k_asm); (case k5 => k_asm); (case k9 => first | assumption | exact Mine.CalmN.sub (by assumption) (by first | exact fun _ h => h | exact fun _ h => .tail _ h | exact fun _ h => .tail _ (.tail _ h) | exact fun _ h => .tail _ (.tail _ (.tail _ h)) | exact fun _ h => .tail _ (.tail _ (.tail _ (.tail _ h))) | exact fun _ h => .tail _ (.tail _ (.tail _ (.tail _ (.tail _ h)))) | exact fun _ h => .tail _ (.tail _ (.tail _ (.tail _ (.tail _ (.tail _ h))))) | exact fun _ h => .tail _ (.tail _ (.tail _ (.tail _ (.tail _ (.tail _ (.tail _ h)))))) | exact fun _ h => .tail _ (.tail _ (.tail _ (.tail _ (.tail _ (.tail _ (.tail _ (.tail _ h))))))) | exact fun _ h => .tail _ (.tail _ (.tail _ (.tail _ (.tail _ (.tail _ (.tail _ (.tail _ (.tail _ h)))))))) | exact fun _ h => .tail _ (.tail _ (.tail _ (.tail _ (.tail _ (.tail _ (.tail _ (.tail _ (.tail _ (.tail _ h))))))))) | exact fun _ h => .tail _ (.tail _ (.tail _ (.tail _ (.tail _ (.tail _ (.tail _ (.tail _ (.tail _ (.tail _ (.tail _ h)))))))))) | exact fun _ h => .tail _ (.tail _ (.tail _ (.tail _ (.tail _ (.tail _ (.tail _ (.tail _ (.tail _ (.tail _ (.tail _ (.tail _ h))))))))))) | exact fun _ h => .tail _ (.tail _ (.tail _ (.tail _ (.tail _ (.tail _ (.tail _ (.tail _ (.tail _ (.tail _ (.tail _ (.tail _ (.tail _ h)))))))))))) | exact fun _ h => .tail _ (.tail _ (.tail _ (.tail _ (.tail _ (.tail _ (.tail _ (.tail _ (.tail _ (.tail _ (.tail _ (.tail _ (.tail _ (.tail _ h))))))))))))) | exact fun _ h => .tail _ (.tail _ (.tail _ (.tail _ (.tail _ (.tail _ (.tail _ (.tail _ (.tail _ (.tail _ (.tail _ (.tail _ (.tail _ (.tail _ (.tail _ h))))))))))))))) | exact Or.inl rfl); (case k6 => first | exact rfl | assumption); (case k7 => first | ((try dsimp only [Mine.ktrX]); (try simp only [depth_under_make, depth_under_kw, depth_in1, depth_deeper, depth_caller]); (try dsimp only [Mine.ktrX]); omega) | ((try dsimp only [Mine.ktrX] at *); ktr_room)); (case k8 => first | ((try dsimp only [Mine.ktrX]); (try simp only [units_in1, units_deeper, Around.mark_units, units_caller]); (try dsimp only [Mine.ktrX]); omega) | ((try dsimp only [Mine.ktrX] at *); ktr_units)); (first | assumption | k_mem | omega | rotate_left)); intro t9 h9 tk9 F9 N9; (try dsimp only); (try k_fold)))

namespace Mine
open PySem.Builtin.Int (intBits)
theorem tz_two {n : Int} (h : 0 < n) (h1 : Builtin.bitAnd n 1 = 0) (h2 : Builtin.bitAnd n 2 ≠ 0) : tz n = 1 ∧ sM n = n.fdiv (2 ^ Int.toNat 1) ∧ intBits (sM n) + 1 = intBits n := by
  rw [bitAnd_one (Int.le_of_lt h)] at h1
  rw [bitAnd_two (Int.le_of_lt h)] at h2
  obtain ⟨k, rfl⟩ := Int.eq_ofNat_of_zero_le (Int.le_of_lt h)
  have e : (k : Int) = 2 ^ 1 * ((k / 2 : Nat) : Int) := by omega
  have hm : k / 2 % 2 = 1 := by omega
  have e1 := tz_uniq e hm
  have hb := bits_odd h
  refine ⟨e1, ?_, by omega⟩
  unfold sM
  rw [e1]
  rfl
theorem fme_two {n e : Int} (h : 0 < n) (h1 : Builtin.bitAnd n 1 = 0) (h2 : Builtin.bitAnd n 2 ≠ 0) : Is3 (nm n e) (n.fdiv (2 ^ Int.toNat 1)) (e + 1) (intBits n - 1) := by
  have ⟨a, b, c⟩ := tz_two h h1 h2
  exact ⟨b.symm, by show _ = e + (tz n : Int); rw [a]; rfl, by show _ = ((intBits (sM n) : Nat) : Int); omega⟩
theorem fme_even {n e : Int} (h : 0 < n) : Is3 (nm n e) (n.fdiv (2 ^ ((tz n : Nat) : Int).toNat)) (e + tz n) (intBits n - tz n) := by
  have hb := bits_odd h
  exact ⟨sM_def n, rfl, by show _ = ((intBits (sM n) : Nat) : Int); omega⟩
theorem fme_odd {n e : Int} (h : 0 < n) (h1 : Builtin.bitAnd n 1 ≠ 0) : Is3 (nm n e) n e (intBits n) := by
  have ⟨a, b⟩ := odd_bitAnd h h1
  exact ⟨a.symm, by show _ = e + (tz n : Int); rw [b]; simp, by show _ = ((intBits (sM n) : Nat) : Int); rw [a]⟩
set_option maxRecDepth 100000 in
set_option maxHeartbeats 8000000 in
theorem c_fme_pos (w : World) (news : List (Addr × Obj)) (n e : Int) (t u : Tok) (hn : 0 < n) :
    Ctr w 86 2 news [.int n t, .int e u] (RetT4 news 0 (nm n e).1 (nm n e).2.1 (nm n e).2.2) := by
  w_top off
  dsimp only [Ctr, RetI, RetT2, RetT4, RetB, RetZ]
  k_fill
  intro pp loose mean mg mb dp un gd cn cs a ccd cl outer A₀ base h₀ L m s hxx Q E B F X N T hk hdp hu hcalm hret
  refine wpAny_call ?_
  k_dflt (refine' code_def ?k1 ?k2 ?k3 ?k4 ?k5 ?kA ?kF ?kK ?k6 ?k7 ?k8 ?k9 ?kB ?_ ?c2 ?c3 ?c4 ?c5; (case kA => exact rfl); (case kF => exact rfl); (case kK => assumption); (case k1 => k_asm); (case k2 => k_asm); (case k3 => k_asm); (case k4 => k_asm); (case k5 => k_asm); (case k6 => k_is); (case k7 => k_is); (case k8 => first | ((try dsimp only [Mine.ktrX]); (try simp only [depth_under_make, depth_under_kw, depth_in1, depth_deeper, depth_caller]); (try dsimp only [Mine.ktrX]); omega) | ((try dsimp only [Mine.ktrX] at *); ktr_room)); (case k9 => first | exact BindsTo.of_eq rfl | exact binds_K (by k_in) rfl (by k_is) rfl rfl rfl); (case c5 => decide); (case kB => exact locs rfl); (case c2 => exact rfl); (case c3 => exact rfl); (case c4 => exact rfl); k_whole; intro g' L' h' FG' F' N' B' X' T'; (try dsimp only); (try k_lift B'); (try k_fold))
  k_with_none
  repeat' (first | (k_unfold; (try dsimp only)) | walk1 | (dsimp only; walk1) | (leave1; try dsimp only) | fail "no step")
  all_goals first
    | (rename Fr _ _ _ _ => lF; rename News _ _ _ _ => lN; refine retN_end hret ?_ lF lN (by k_mem) (by first | exact fun _ h => .tail _ h | exact fun _ h => h | exact fun _ h => .tail _ (.tail _ h) | exact fun _ h => .tail _ (.tail _ (.tail _ h)) | exact fun _ h => .tail _ (.tail _ (.tail _ (.tail _ h))) | exact fun _ h => .tail _ (.tail _ (.tail _ (.tail _ (.tail _ h)))))
       first
         | with_reducible exact fme_odd hn (by assumption)
         | with_reducible exact fme_two hn (by assumption) (by assumption)
         | with_reducible exact fme_even hn)
    | exact hn
    | exact retZ_end hret (by k_asm) (by k_asm) (by first | exact fun _ h => .tail _ h | exact fun _ h => h | exact fun _ h => .tail _ (.tail _ h) | exact fun _ h => .tail _ (.tail _ (.tail _ h)) | exact fun _ h => .tail _ (.tail _ (.tail _ (.tail _ h))) | exact fun _ h => .tail _ (.tail _ (.tail _ (.tail _ (.tail _ h)))))
    | (exfalso; omega)
set_option maxRecDepth 100000 in
set_option maxHeartbeats 8000000 in
theorem c_fme_zero (w : World) (news : List (Addr × Obj)) (n e : Int) (t u : Tok) (hn : n = 0) :
    Ctr w 86 2 news [.int n t, .int e u] (RetZ news) := by
  subst hn
  w_top off
  dsimp only [Ctr, RetI, RetT2, RetT4, RetB, RetZ]
  k_fill
  intro pp loose mean mg mb dp un gd cn cs a ccd cl outer A₀ base h₀ L m s hxx Q E B F X N T hk hdp hu hcalm hret
  refine wpAny_call ?_
  k_dflt (refine' code_def ?k1 ?k2 ?k3 ?k4 ?k5 ?kA ?kF ?kK ?k6 ?k7 ?k8 ?k9 ?kB ?_ ?c2 ?c3 ?c4 ?c5; (case kA => exact rfl); (case kF => exact rfl); (case kK => assumption); (case k1 => k_asm); (case k2 => k_asm); (case k3 => k_asm); (case k4 => k_asm); (case k5 => k_asm); (case k6 => k_is); (case k7 => k_is); (case k8 => first | ((try dsimp only [Mine.ktrX]); (try simp only [depth_under_make, depth_under_kw, depth_in1, depth_deeper, depth_caller]); (try dsimp only [Mine.ktrX]); omega) | ((try dsimp only [Mine.ktrX] at *); ktr_room)); (case k9 => first | exact BindsTo.of_eq rfl | exact binds_K (by k_in) rfl (by k_is) rfl rfl rfl); (case c5 => decide); (case kB => exact locs rfl); (case c2 => exact rfl); (case c3 => exact rfl); (case c4 => exact rfl); k_whole; intro g' L' h' FG' F' N' B' X' T'; (try dsimp only); (try k_lift B'); (try k_fold))
  k_with_none
  repeat' (first | (k_unfold; (try dsimp only)) | walk1 | (dsimp only; walk1) | (leave1; try dsimp only) | fail "no step")
  all_goals first
    | (rename Fr _ _ _ _ => lF; rename News _ _ _ _ => lN; refine retN_end hret ?_ lF lN (by k_mem) (by first | exact fun _ h => .tail _ h | exact fun _ h => h | exact fun _ h => .tail _ (.tail _ h) | exact fun _ h => .tail _ (.tail _ (.tail _ h)) | exact fun _ h => .tail _ (.tail _ (.tail _ (.tail _ h))) | exact fun _ h => .tail _ (.tail _ (.tail _ (.tail _ (.tail _ h)))))
       first
         | with_reducible exact fme_odd hn (by assumption)
         | with_reducible exact fme_two hn (by assumption) (by assumption)
         | with_reducible exact fme_even hn)
    | exact hn
    | exact retZ_end hret (by k_asm) (by k_asm) (by first | exact fun _ h => .tail _ h | exact fun _ h => h | exact fun _ h => .tail _ (.tail _ h) | exact fun _ h => .tail _ (.tail _ (.tail _ h)) | exact fun _ h => .tail _ (.tail _ (.tail _ (.tail _ h))) | exact fun _ h => .tail _ (.tail _ (.tail _ (.tail _ (.tail _ h)))))
    | (exfalso; omega)
set_option maxRecDepth 100000 in
set_option maxHeartbeats 8000000 in
theorem c_fme_neg (w : World) (news : List (Addr × Obj)) (n e : Int) (t u : Tok) (hn : n < 0) :
    Ctr w 86 2 news [.int n t, .int e u] (RetT4 news 1 (nm (-n) e).1 (nm (-n) e).2.1 (nm (-n) e).2.2) := by
  w_top off
  dsimp only [Ctr, RetI, RetT2, RetT4, RetB, RetZ]
  k_fill
  intro pp loose mean mg mb dp un gd cn cs a ccd cl outer A₀ base h₀ L m s hxx Q E B F X N T hk hdp hu hcalm hret
  refine wpAny_call ?_
  k_dflt (refine' code_def ?k1 ?k2 ?k3 ?k4 ?k5 ?kA ?kF ?kK ?k6 ?k7 ?k8 ?k9 ?kB ?_ ?c2 ?c3 ?c4 ?c5; (case kA => exact rfl); (case kF => exact rfl); (case kK => assumption); (case k1 => k_asm); (case k2 => k_asm); (case k3 => k_asm); (case k4 => k_asm); (case k5 => k_asm); (case k6 => k_is); (case k7 => k_is); (case k8 => first | ((try dsimp only [Mine.ktrX]); (try simp only [depth_under_make, depth_under_kw, depth_in1, depth_deeper, depth_caller]); (try dsimp only [Mine.ktrX]); omega) | ((try dsimp only [Mine.ktrX] at *); ktr_room)); (case k9 => first | exact BindsTo.of_eq rfl | exact binds_K (by k_in) rfl (by k_is) rfl rfl rfl); (case c5 => decide); (case kB => exact locs rfl); (case c2 => exact rfl); (case c3 => exact rfl); (case c4 => exact rfl); k_whole; intro g' L' h' FG' F' N' B' X' T'; (try dsimp only); (try k_lift B'); (try k_fold))
  k_with_none
  repeat' (first | (k_unfold; (try dsimp only)) | walk1 | (dsimp only; walk1) | (leave1; try dsimp only) | fail "no step")
  all_goals first
    | (rename Fr _ _ _ _ => lF; rename News _ _ _ _ => lN; refine retN_end hret ?_ lF lN (by k_mem) (by first | exact fun _ h => .tail _ h | exact fun _ h => h | exact fun _ h => .tail _ (.tail _ h) | exact fun _ h => .tail _ (.tail _ (.tail _ h)) | exact fun _ h => .tail _ (.tail _ (.tail _ (.tail _ h))) | exact fun _ h => .tail _ (.tail _ (.tail _ (.tail _ (.tail _ h)))))
       first
         | with_reducible exact fme_odd (Int.neg_pos_of_neg hn) (by assumption)
         | with_reducible exact fme_two (Int.neg_pos_of_neg hn) (by assumption) (by assumption)
         | with_reducible exact fme_even (Int.neg_pos_of_neg hn))
    | exact (Int.neg_pos_of_neg hn)
    | exact retZ_end hret (by k_asm) (by k_asm) (by first | exact fun _ h => .tail _ h | exact fun _ h => h | exact fun _ h => .tail _ (.tail _ h) | exact fun _ h => .tail _ (.tail _ (.tail _ h)) | exact fun _ h => .tail _ (.tail _ (.tail _ (.tail _ h))) | exact fun _ h => .tail _ (.tail _ (.tail _ (.tail _ (.tail _ h)))))
    | (exfalso; omega)
end Mine

end
namespace Mine
open PySem.Builtin.Int (intBits)
@[irreducible] def sgn (n : Int) : Int := if n < 0 then 1 else 0
@[irreducible] def absI (n : Int) : Int := if n < 0 then -n else n
theorem sgn_or (n : Int) : sgn n = 0 ∨ sgn n = 1 := by unfold sgn; split <;> simp
theorem absI_pos {n : Int} (h : n ≠ 0) : 0 < absI n := by unfold absI; split <;> omega
theorem absI_sq (n : Int) : absI n * absI n = n * n := by unfold absI; split <;> grind
/-- a number that is not nought -/
theorem c_fme_nz (w : World) (news : List (Addr × Obj)) (n e : Int) (t u : Tok) (hn : n ≠ 0) :
    Ctr w 86 2 news [.int n t, .int e u] (RetT4 news (sgn n) (sM (absI n)) (e + tz (absI n)) (intBits (sM (absI n)))) := by
  rcases (show n < 0 ∨ 0 < n by omega) with h | h
  · have e1 : sgn n = 1 := by unfold sgn; rw [if_pos h]
    have e2 : absI n = -n := by unfold absI; rw [if_pos h]
    rw [e1, e2]
    exact c_fme_neg w news n e t u h
  · have e1 : sgn n = 0 := by unfold sgn; rw [if_neg (by omega)]
    have e2 : absI n = n := by unfold absI; rw [if_neg (by omega)]
    rw [e1, e2]
    exact c_fme_pos w news n e t u h
end Mine

section
local macro_rules | `(tactic| walk_at "none 0") => `(tactic| fail)
local macro_rules | `(tactic| walk_at "none 1") => `(tactic| fail)
local macro_rules | `(tactic| walk_at "none 2") => `(tactic| fail)
local macro_rules | `(tactic| walk_at "none 3") => `(tactic| fail)
local macro_rules | `(tactic| walk_at "none 4") => `(tactic| fail)
local macro_rules | `(tactic| walk_at "none 5") => `(tactic| fail)
local macro_rules | `(tactic| walk_at "binaryOp LShift int int") => `(tactic| (refine PyProof.Rows.lshift_int ?_ ?_ ?_; rotate_left 2))
local macro_rules | `(tactic| walk_at "binaryOp FloorDiv int int") => `(tactic| (refine PyProof.Rows.floordiv_int (Mine.ninv_pos (by assumption)) ?_ (Or.inl (PyProof.noPylong_of_log2 (Mine.ninv_log (by assumption))))))
local macro_rules | `(tactic| walk_at "binaryOp Mult int int") => `(tactic| (refine PyProof.Rows.mul_int ?_ ?_; (try dsimp only)))
local macro_rules | `(tactic| walk_at "binaryOp Pow int int") => `(tactic| (refine PyProof.Rows.pow_int ?_ ?_ ?_; rotate_left 2; (try dsimp only)))
local macro_rules | `(tactic| walk_at "execs cons") => `(tactic| (with_reducible (refine Mine.gen_toks ?_; intro tk; refine wpAny_execs_cons ?_); (try dsimp only)))
local macro_rules | `(tactic| walk_at "execs nil") => `(tactic| (with_reducible (refine Mine.gen_toks ?_; intro tk; refine wpAny_execs_nil ?_); (try dsimp only)))
local macro_rules | `(tactic| walk_at "unpackItems ref") => `(tactic| (k_here; k_dflt (refine' Mine.unpack_calm ?kA ?kC ?k1 ?k2 ?k3 ?k5 ?_; (case kA => exact rfl); (case k1 => k_asm); (case k2 => k_asm); (case kC => first | exact Mine.CalmN.at (by assumption) (by k_asm) (by first | exact fun _ h => h | exact fun _ h => .tail _ h | exact fun _ h => .tail _ (.tail _ h) | exact fun _ h => .tail _ (.tail _ (.tail _ h)) | exact fun _ h => .tail _ (.tail _ (.tail _ (.tail _ h))) | exact fun _ h => .tail _ (.tail _ (.tail _ (.tail _ (.tail _ h)))) | exact fun _ h => .tail _ (.tail _ (.tail _ (.tail _ (.tail _ (.tail _ h))))) | exact fun _ h => .tail _ (.tail _ (.tail _ (.tail _ (.tail _ (.tail _ (.tail _ h)))))) | exact fun _ h => .tail _ (.tail _ (.tail _ (.tail _ (.tail _ (.tail _ (.tail _ (.tail _ h))))))) | exact fun _ h => .tail _ (.tail _ (.tail _ (.tail _ (.tail _ (.tail _ (.tail _ (.tail _ (.tail _ h)))))))) | exact fun _ h => .tail _ (.tail _ (.tail _ (.tail _ (.tail _ (.tail _ (.tail _ (.tail _ (.tail _ (.tail _ h))))))))) | exact fun _ h => .tail _ (.tail _ (.tail _ (.tail _ (.tail _ (.tail _ (.tail _ (.tail _ (.tail _ (.tail _ (.tail _ h)))))))))) | exact fun _ h => .tail _ (.tail _ (.tail _ (.tail _ (.tail _ (.tail _ (.tail _ (.tail _ (.tail _ (.tail _ (.tail _ (.tail _ h))))))))))) | exact fun _ h => .tail _ (.tail _ (.tail _ (.tail _ (.tail _ (.tail _ (.tail _ (.tail _ (.tail _ (.tail _ (.tail _ (.tail _ (.tail _ h)))))))))))) | exact fun _ h => .tail _ (.tail _ (.tail _ (.tail _ (.tail _ (.tail _ (.tail _ (.tail _ (.tail _ (.tail _ (.tail _ (.tail _ (.tail _ (.tail _ h))))))))))))) | exact fun _ h => .tail _ (.tail _ (.tail _ (.tail _ (.tail _ (.tail _ (.tail _ (.tail _ (.tail _ (.tail _ (.tail _ (.tail _ (.tail _ (.tail _ (.tail _ h))))))))))))))) | exact Or.inl rfl); (case k3 => kun_tup); (case k5 => exact rfl); k_whole); intro h' F' N'; (try k_sweep)))
local macro_rules | `(tactic| walk_at "assign Tuple") => `(tactic| (k_here; (with_reducible show wpAny _ _ (assign (Expr.Tuple _ _ _) _ (Value.ref _)) _ _ _); k_dflt (refine' Mine.assign_calm ?kA ?kC ?k1 ?k2 ?k3 ?k5 ?k6 ?_; (case kA => exact rfl); (case k1 => k_asm); (case k2 => k_asm); (case kC => first | exact Mine.CalmN.at (by assumption) (by k_asm) (by first | exact fun _ h => h | exact fun _ h => .tail _ h | exact fun _ h => .tail _ (.tail _ h) | exact fun _ h => .tail _ (.tail _ (.tail _ h)) | exact fun _ h => .tail _ (.tail _ (.tail _ (.tail _ h))) | exact fun _ h => .tail _ (.tail _ (.tail _ (.tail _ (.tail _ h)))) | exact fun _ h => .tail _ (.tail _ (.tail _ (.tail _ (.tail _ (.tail _ h))))) | exact fun _ h => .tail _ (.tail _ (.tail _ (.tail _ (.tail _ (.tail _ (.tail _ h)))))) | exact fun _ h => .tail _ (.tail _ (.tail _ (.tail _ (.tail _ (.tail _ (.tail _ (.tail _ h))))))) | exact fun _ h => .tail _ (.tail _ (.tail _ (.tail _ (.tail _ (.tail _ (.tail _ (.tail _ (.tail _ h)))))))) | exact fun _ h => .tail _ (.tail _ (.tail _ (.tail _ (.tail _ (.tail _ (.tail _ (.tail _ (.tail _ (.tail _ h))))))))) | exact fun _ h => .tail _ (.tail _ (.tail _ (.tail _ (.tail _ (.tail _ (.tail _ (.tail _ (.tail _ (.tail _ (.tail _ h)))))))))) | exact fun _ h => .tail _ (.tail _ (.tail _ (.tail _ (.tail _ (.tail _ (.tail _ (.tail _ (.tail _ (.tail _ (.tail _ (.tail _ h))))))))))) | exact fun _ h => .tail _ (.tail _ (.tail _ (.tail _ (.tail _ (.tail _ (.tail _ (.tail _ (.tail _ (.tail _ (.tail _ (.tail _ (.tail _ h)))))))))))) | exact fun _ h => .tail _ (.tail _ (.tail _ (.tail _ (.tail _ (.tail _ (.tail _ (.tail _ (.tail _ (.tail _ (.tail _ (.tail _ (.tail _ (.tail _ h))))))))))))) | exact fun _ h => .tail _ (.tail _ (.tail _ (.tail _ (.tail _ (.tail _ (.tail _ (.tail _ (.tail _ (.tail _ (.tail _ (.tail _ (.tail _ (.tail _ (.tail _ h))))))))))))))) | exact Or.inl rfl); (case k3 => kun_tup); (case k5 => exact rfl); (case k6 => exact rfl); k_whole); intro h' F' N'; (try k_sweep)))
local macro_rules | `(tactic| walk_at "call builtin:min") => `(tactic| (k_here; (with_reducible show wpAny _ _ (call (Value.builtin _) [Value.int _ _, Value.int _ _]) _ _ _); k_dflt (refine' Mine.min_calm ?kA ?kC ?k1 ?k2 ?_; (case kA => exact rfl); (case k1 => k_asm); (case k2 => k_asm); (case kC => first | exact Mine.CalmN.at (by assumption) (by k_asm) (by first | exact fun _ h => h | exact fun _ h => .tail _ h | exact fun _ h => .tail _ (.tail _ h) | exact fun _ h => .tail _ (.tail _ (.tail _ h)) | exact fun _ h => .tail _ (.tail _ (.tail _ (.tail _ h))) | exact fun _ h => .tail _ (.tail _ (.tail _ (.tail _ (.tail _ h)))) | exact fun _ h => .tail _ (.tail _ (.tail _ (.tail _ (.tail _ (.tail _ h))))) | exact fun _ h => .tail _ (.tail _ (.tail _ (.tail _ (.tail _ (.tail _ (.tail _ h)))))) | exact fun _ h => .tail _ (.tail _ (.tail _ (.tail _ (.tail _ (.tail _ (.tail _ (.tail _ h))))))) | exact fun _ h => .tail _ (.tail _ (.tail _ (.tail _ (.tail _ (.tail _ (.tail _ (.tail _ (.tail _ h)))))))) | exact fun _ h => .tail _ (.tail _ (.tail _ (.tail _ (.tail _ (.tail _ (.tail _ (.tail _ (.tail _ (.tail _ h))))))))) | exact fun _ h => .tail _ (.tail _ (.tail _ (.tail _ (.tail _ (.tail _ (.tail _ (.tail _ (.tail _ (.tail _ (.tail _ h)))))))))) | exact fun _ h => .tail _ (.tail _ (.tail _ (.tail _ (.tail _ (.tail _ (.tail _ (.tail _ (.tail _ (.tail _ (.tail _ (.tail _ h))))))))))) | exact fun _ h => .tail _ (.tail _ (.tail _ (.tail _ (.tail _ (.tail _ (.tail _ (.tail _ (.tail _ (.tail _ (.tail _ (.tail _ (.tail _ h)))))))))))) | exact fun _ h => .tail _ (.tail _ (.tail _ (.tail _ (.tail _ (.tail _ (.tail _ (.tail _ (.tail _ (.tail _ (.tail _ (.tail _ (.tail _ (.tail _ h))))))))))))) | exact fun _ h => .tail _ (.tail _ (.tail _ (.tail _ (.tail _ (.tail _ (.tail _ (.tail _ (.tail _ (.tail _ (.tail _ (.tail _ (.tail _ (.tail _ (.tail _ h))))))))))))))) | exact Or.inl rfl); k_whole); intro h9 tk9 F9 N9; (try dsimp only)))
local macro_rules | `(tactic| walk_at "call builtin:max") => `(tactic| (k_here; (with_reducible show wpAny _ _ (call (Value.builtin _) [Value.int _ _, Value.int _ _]) _ _ _); k_dflt (refine' Mine.max_wc ?kA ?kC ?k1 ?k2 ?_; (case kA => exact rfl); (case k1 => k_asm); (case k2 => k_asm); (case kC => first | exact Mine.CalmN.at (by assumption) (by k_asm) (by first | exact fun _ h => h | exact fun _ h => .tail _ h | exact fun _ h => .tail _ (.tail _ h) | exact fun _ h => .tail _ (.tail _ (.tail _ h)) | exact fun _ h => .tail _ (.tail _ (.tail _ (.tail _ h))) | exact fun _ h => .tail _ (.tail _ (.tail _ (.tail _ (.tail _ h)))) | exact fun _ h => .tail _ (.tail _ (.tail _ (.tail _ (.tail _ (.tail _ h))))) | exact fun _ h => .tail _ (.tail _ (.tail _ (.tail _ (.tail _ (.tail _ (.tail _ h)))))) | exact fun _ h => .tail _ (.tail _ (.tail _ (.tail _ (.tail _ (.tail _ (.tail _ (.tail _ h))))))) | exact fun _ h => .tail _ (.tail _ (.tail _ (.tail _ (.tail _ (.tail _ (.tail _ (.tail _ (.tail _ h)))))))) | exact fun _ h => .tail _ (.tail _ (.tail _ (.tail _ (.tail _ (.tail _ (.tail _ (.tail _ (.tail _ (.tail _ h))))))))) | exact fun _ h => .tail _ (.tail _ (.tail _ (.tail _ (.tail _ (.tail _ (.tail _ (.tail _ (.tail _ (.tail _ (.tail _ h)))))))))) | exact fun _ h => .tail _ (.tail _ (.tail _ (.tail _ (.tail _ (.tail _ (.tail _ (.tail _ (.tail _ (.tail _ (.tail _ (.tail _ h))))))))))) | exact fun _ h => .tail _ (.tail _ (.tail _ (.tail _ (.tail _ (.tail _ (.tail _ (.tail _ (.tail _ (.tail _ (.tail _ (.tail _ (.tail _ h)))))))))))) | exact fun _ h => .tail _ (.tail _ (.tail _ (.tail _ (.tail _ (.tail _ (.tail _ (.tail _ (.tail _ (.tail _ (.tail _ (.tail _ (.tail _ (.tail _ h))))))))))))) | exact fun _ h => .tail _ (.tail _ (.tail _ (.tail _ (.tail _ (.tail _ (.tail _ (.tail _ (.tail _ (.tail _ (.tail _ (.tail _ (.tail _ (.tail _ (.tail _ h))))))))))))))) | exact Or.inl rfl); k_whole); intro v9 h9 tk9 F9 N9; (try dsimp only)))
local macro_rules | `(tactic| walk_at "exec Assert") => `(tactic| (refine Mine.assert_holds ?_))

local macro_rules | `(tactic| walk_at "call ref") => `(tactic| (k_here; (with_reducible show wpAny _ _ (call (Value.ref 21) _) _ _ _); k_dflt (refine' Mine.Ctr.use (Mine.c_trailing _ _ _ _ ?_) ?k1 ?k2 ?k3 ?k4 ?k5 ?k6 ?k7 ?k8 ?k9 ?_; (case k1 => k_asm); (case k2 => k_asm); (case k3 => k_asm); (case k4 => k_asm); (case k5 => k_asm); (case k9 => first | assumption | exact Mine.CalmN.sub (by assumption) (by first | exact fun _ h => h | exact fun _ h => .tail _ h | exact fun _ h => .tail _ (.tail _ h) | exact fun _ h => .tail _ (.tail _ (.tail _ h)) | exact fun _ h => .tail _ (.tail _ (.tail _ (.tail _ h))) | exact fun _ h => .tail _ (.tail _ (.tail _ (.tail _ (.tail _ h)))) | exact fun _ h => .tail _ (.tail _ (.tail _ (.tail _ (.tail _ (.tail _ h))))) | exact fun _ h => .tail _ (.tail _ (.tail _ (.tail _ (.tail _ (.tail _ (.tail _ h)))))) | exact fun _ h => .tail _ (.tail _ (.tail _ (.tail _ (.tail _ (.tail _ (.tail _ (.tail _ h))))))) | exact fun _ h => .tail _ (.tail _ (.tail _ (.tail _ (.tail _ (.tail _ (.tail _ (.tail _ (.tail _ h)))))))) | exact fun _ h => .tail _ (.tail _ (.tail _ (.tail _ (.tail _ (.tail _ (.tail _ (.tail _ (.tail _ (.tail _ h))))))))) | exact fun _ h => .tail _ (.tail _ (.tail _ (.tail _ (.tail _ (.tail _ (.tail _ (.tail _ (.tail _ (.tail _ (.tail _ h)))))))))) | exact fun _ h => .tail _ (.tail _ (.tail _ (.tail _ (.tail _ (.tail _ (.tail _ (.tail _ (.tail _ (.tail _ (.tail _ (.tail _ h))))))))))) | exact fun _ h => .tail _ (.tail _ (.tail _ (.tail _ (.tail _ (.tail _ (.tail _ (.tail _ (.tail _ (.tail _ (.tail _ (.tail _ (.tail _ h)))))))))))) | exact fun _ h => .tail _ (.tail _ (.tail _ (.tail _ (.tail _ (.tail _ (.tail _ (.tail _ (.tail _ (.tail _ (.tail _ (.tail _ (.tail _ (.tail _ h))))))))))))) | exact fun _ h => .tail _ (.tail _ (.tail _ (.tail _ (.tail _ (.tail _ (.tail _ (.tail _ (.tail _ (.tail _ (.tail _ (.tail _ (.tail _ (.tail _ (.tail _ h))))))))))))))) | exact Or.inl rfl); (case k6 => first | exact rfl | assumption); (case k7 => first | ((try dsimp only [Mine.ktrX]); (try simp only [depth_under_make, depth_under_kw, depth_in1, depth_deeper, depth_caller]); (try dsimp only [Mine.ktrX]); omega) | ((try dsimp only [Mine.ktrX] at *); ktr_room)); (case k8 => first | ((try dsimp only [Mine.ktrX]); (try simp only [units_in1, units_deeper, Around.mark_units, units_caller]); (try dsimp only [Mine.ktrX]); omega) | ((try dsimp only [Mine.ktrX] at *); ktr_units)); (first | assumption | k_mem | omega | rotate_left)); intro t9 h9 tk9 F9 N9; (try dsimp only); (try k_fold)))
namespace Mine
open PySem.Builtin.Int (intBits)
theorem rsh_f {man n : Int} : man.fdiv (2 ^ n.toNat) = rsh .f man n := rfl
theorem rsh_d {man n : Int} : man.fdiv (2 ^ n.toNat) = rsh .d man n := rfl
theorem rsh_c {man n : Int} : -(-man).fdiv (2 ^ n.toNat) = rsh .c man n := rfl
theorem rsh_u {man n : Int} : -(-man).fdiv (2 ^ n.toNat) = rsh .u man n := rfl
theorem shift_ok {b prec : Int} (h : 0 < b - prec) (h1 : b ≤ 100000) (h2 : 1 ≤ prec) : 0 ≤ b - prec - 1 ∧ (intBits 1 : Int) + (b - prec - 1) ≤ 2 ^ 27 := by
  rw [show intBits 1 = 1 by decide]; omega
theorem pos_of_rsh {wy : Way} {man prec m' : Int} (hm : 0 < man) (hp : 1 ≤ prec) (hn : 0 < (intBits man : Int) - prec) (e : m' = rsh wy man ((intBits man : Int) - prec)) : 0 < m' := by rw [e]; exact rsh_pos wy hm hp hn

set_option maxRecDepth 100000 in
set_option maxHeartbeats 8000000 in
theorem c_norm_f (w : World) (news : List (Addr × Obj)) (man exp prec : Int) (t u v x y z : Tok) (hm : 0 < man) (hp : 1 ≤ prec) (hb : (intBits man : Int) ≤ 100000) :
    Ctr w 71 2 news [.int 0 t, .int man u, .int exp v, .int (intBits man) x, .int prec y, .str (Str.ofString "f") z] (RetT4 news 0 (rn .f man exp prec).1 (rn .f man exp prec).2.1 (rn .f man exp prec).2.2) := by
  w_top off
  dsimp only [Ctr, RetI, RetT2, RetT4, RetB, RetZ]
  k_fill
  intro pp loose mean mg mb dp un gd cn cs a ccd cl outer A₀ base h₀ L m s hxx Q E B F X N T hk hdp hu hcalm hret
  refine wpAny_call ?_
  k_dflt (refine' code_def ?k1 ?k2 ?k3 ?k4 ?k5 ?kA ?kF ?kK ?k6 ?k7 ?k8 ?k9 ?kB ?_ ?c2 ?c3 ?c4 ?c5; (case kA => exact rfl); (case kF => exact rfl); (case kK => assumption); (case k1 => k_asm); (case k2 => k_asm); (case k3 => k_asm); (case k4 => k_asm); (case k5 => k_asm); (case k6 => k_is); (case k7 => k_is); (case k8 => first | ((try dsimp only [Mine.ktrX]); (try simp only [depth_under_make, depth_under_kw, depth_in1, depth_deeper, depth_caller]); (try dsimp only [Mine.ktrX]); omega) | ((try dsimp only [Mine.ktrX] at *); ktr_room)); (case k9 => first | exact BindsTo.of_eq rfl | exact binds_K (by k_in) rfl (by k_is) rfl rfl rfl); (case c5 => decide); (case kB => exact locs rfl); (case c2 => exact rfl); (case c3 => exact rfl); (case c4 => exact rfl); k_whole; intro g' L' h' FG' F' N' B' X' T'; (try dsimp only); (try k_lift B'); (try k_fold))
  k_with_none
  repeat' (first | (k_unfold; (try dsimp only)) | walk1 | (dsimp only; walk1) | (leave1; try dsimp only) | fail "no step")
  all_goals first
    | (rename Fr _ _ _ _ => lF; rename News _ _ _ _ => lN; refine retN_end hret ?_ lF lN (by k_mem) (by first | exact fun _ h => .tail _ h | exact fun _ h => h | exact fun _ h => .tail _ (.tail _ h) | exact fun _ h => .tail _ (.tail _ (.tail _ h)) | exact fun _ h => .tail _ (.tail _ (.tail _ (.tail _ h))) | exact fun _ h => .tail _ (.tail _ (.tail _ (.tail _ (.tail _ h)))))
       first
         | with_reducible exact endR_odd1 (wy := .f) hm hp (by assumption) (rsh_f) (by assumption) (by assumption)
         | with_reducible exact endR_odd (wy := .f) hm hp (by assumption) (rsh_f) (by assumption) (by assumption)
         | with_reducible exact endR_even1 (wy := .f) (by assumption) (rsh_f) (by assumption)
         | with_reducible exact endR_even (wy := .f) hm hp (by assumption) (rsh_f) (by assumption)
         | with_reducible exact endN_odd1 (wy := .f) hm (by assumption) (by assumption) (by assumption)
         | with_reducible exact endN_odd (wy := .f) hm (by assumption) (by assumption)
         | with_reducible exact endN_even1 (wy := .f) (by assumption) (by assumption)
         | with_reducible exact endN_even (wy := .f) hm (by assumption))
    | with_reducible exact pos_of_rsh (wy := .f) hm hp (by assumption) (rsh_f)
    | exact hm
    | with_reducible exact (shift_ok (by assumption) hb hp).1
    | with_reducible exact (shift_ok (by assumption) hb hp).2
    | (exfalso; omega)
set_option maxRecDepth 100000 in
set_option maxHeartbeats 8000000 in
theorem c_norm_c (w : World) (news : List (Addr × Obj)) (man exp prec : Int) (t u v x y z : Tok) (hm : 0 < man) (hp : 1 ≤ prec) (hb : (intBits man : Int) ≤ 100000) :
    Ctr w 71 2 news [.int 0 t, .int man u, .int exp v, .int (intBits man) x, .int prec y, .str (Str.ofString "c") z] (RetT4 news 0 (rn .c man exp prec).1 (rn .c man exp prec).2.1 (rn .c man exp prec).2.2) := by
  w_top off
  dsimp only [Ctr, RetI, RetT2, RetT4, RetB, RetZ]
  k_fill
  intro pp loose mean mg mb dp un gd cn cs a ccd cl outer A₀ base h₀ L m s hxx Q E B F X N T hk hdp hu hcalm hret
  refine wpAny_call ?_
  k_dflt (refine' code_def ?k1 ?k2 ?k3 ?k4 ?k5 ?kA ?kF ?kK ?k6 ?k7 ?k8 ?k9 ?kB ?_ ?c2 ?c3 ?c4 ?c5; (case kA => exact rfl); (case kF => exact rfl); (case kK => assumption); (case k1 => k_asm); (case k2 => k_asm); (case k3 => k_asm); (case k4 => k_asm); (case k5 => k_asm); (case k6 => k_is); (case k7 => k_is); (case k8 => first | ((try dsimp only [Mine.ktrX]); (try simp only [depth_under_make, depth_under_kw, depth_in1, depth_deeper, depth_caller]); (try dsimp only [Mine.ktrX]); omega) | ((try dsimp only [Mine.ktrX] at *); ktr_room)); (case k9 => first | exact BindsTo.of_eq rfl | exact binds_K (by k_in) rfl (by k_is) rfl rfl rfl); (case c5 => decide); (case kB => exact locs rfl); (case c2 => exact rfl); (case c3 => exact rfl); (case c4 => exact rfl); k_whole; intro g' L' h' FG' F' N' B' X' T'; (try dsimp only); (try k_lift B'); (try k_fold))
  k_with_none
  repeat' (first | (k_unfold; (try dsimp only)) | walk1 | (dsimp only; walk1) | (leave1; try dsimp only) | fail "no step")
  all_goals first
    | (rename Fr _ _ _ _ => lF; rename News _ _ _ _ => lN; refine retN_end hret ?_ lF lN (by k_mem) (by first | exact fun _ h => .tail _ h | exact fun _ h => h | exact fun _ h => .tail _ (.tail _ h) | exact fun _ h => .tail _ (.tail _ (.tail _ h)) | exact fun _ h => .tail _ (.tail _ (.tail _ (.tail _ h))) | exact fun _ h => .tail _ (.tail _ (.tail _ (.tail _ (.tail _ h)))))
       first
         | with_reducible exact endR_odd1 (wy := .c) hm hp (by assumption) (rsh_c) (by assumption) (by assumption)
         | with_reducible exact endR_odd (wy := .c) hm hp (by assumption) (rsh_c) (by assumption) (by assumption)
         | with_reducible exact endR_even1 (wy := .c) (by assumption) (rsh_c) (by assumption)
         | with_reducible exact endR_even (wy := .c) hm hp (by assumption) (rsh_c) (by assumption)
         | with_reducible exact endN_odd1 (wy := .c) hm (by assumption) (by assumption) (by assumption)
         | with_reducible exact endN_odd (wy := .c) hm (by assumption) (by assumption)
         | with_reducible exact endN_even1 (wy := .c) (by assumption) (by assumption)
         | with_reducible exact endN_even (wy := .c) hm (by assumption))
    | with_reducible exact pos_of_rsh (wy := .c) hm hp (by assumption) (rsh_c)
    | exact hm
    | with_reducible exact (shift_ok (by assumption) hb hp).1
    | with_reducible exact (shift_ok (by assumption) hb hp).2
    | (exfalso; omega)
set_option maxRecDepth 100000 in
set_option maxHeartbeats 8000000 in
theorem c_norm_u (w : World) (news : List (Addr × Obj)) (man exp prec : Int) (t u v x y z : Tok) (hm : 0 < man) (hp : 1 ≤ prec) (hb : (intBits man : Int) ≤ 100000) :
    Ctr w 71 2 news [.int 0 t, .int man u, .int exp v, .int (intBits man) x, .int prec y, .str (Str.ofString "u") z] (RetT4 news 0 (rn .u man exp prec).1 (rn .u man exp prec).2.1 (rn .u man exp prec).2.2) := by
  w_top off
  dsimp only [Ctr, RetI, RetT2, RetT4, RetB, RetZ]
  k_fill
  intro pp loose mean mg mb dp un gd cn cs a ccd cl outer A₀ base h₀ L m s hxx Q E B F X N T hk hdp hu hcalm hret
  refine wpAny_call ?_
  k_dflt (refine' code_def ?k1 ?k2 ?k3 ?k4 ?k5 ?kA ?kF ?kK ?k6 ?k7 ?k8 ?k9 ?kB ?_ ?c2 ?c3 ?c4 ?c5; (case kA => exact rfl); (case kF => exact rfl); (case kK => assumption); (case k1 => k_asm); (case k2 => k_asm); (case k3 => k_asm); (case k4 => k_asm); (case k5 => k_asm); (case k6 => k_is); (case k7 => k_is); (case k8 => first | ((try dsimp only [Mine.ktrX]); (try simp only [depth_under_make, depth_under_kw, depth_in1, depth_deeper, depth_caller]); (try dsimp only [Mine.ktrX]); omega) | ((try dsimp only [Mine.ktrX] at *); ktr_room)); (case k9 => first | exact BindsTo.of_eq rfl | exact binds_K (by k_in) rfl (by k_is) rfl rfl rfl); (case c5 => decide); (case kB => exact locs rfl); (case c2 => exact rfl); (case c3 => exact rfl); (case c4 => exact rfl); k_whole; intro g' L' h' FG' F' N' B' X' T'; (try dsimp only); (try k_lift B'); (try k_fold))
  k_with_none
  repeat' (first | (k_unfold; (try dsimp only)) | walk1 | (dsimp only; walk1) | (leave1; try dsimp only) | fail "no step")
  all_goals first
    | (rename Fr _ _ _ _ => lF; rename News _ _ _ _ => lN; refine retN_end hret ?_ lF lN (by k_mem) (by first | exact fun _ h => .tail _ h | exact fun _ h => h | exact fun _ h => .tail _ (.tail _ h) | exact fun _ h => .tail _ (.tail _ (.tail _ h)) | exact fun _ h => .tail _ (.tail _ (.tail _ (.tail _ h))) | exact fun _ h => .tail _ (.tail _ (.tail _ (.tail _ (.tail _ h)))))
       first
         | with_reducible exact endR_odd1 (wy := .u) hm hp (by assumption) (rsh_u) (by assumption) (by assumption)
         | with_reducible exact endR_odd (wy := .u) hm hp (by assumption) (rsh_u) (by assumption) (by assumption)
         | with_reducible exact endR_even1 (wy := .u) (by assumption) (rsh_u) (by assumption)
         | with_reducible exact endR_even (wy := .u) hm hp (by assumption) (rsh_u) (by assumption)
         | with_reducible exact endN_odd1 (wy := .u) hm (by assumption) (by assumption) (by assumption)
         | with_reducible exact endN_odd (wy := .u) hm (by assumption) (by assumption)
         | with_reducible exact endN_even1 (wy := .u) (by assumption) (by assumption)
         | with_reducible exact endN_even (wy := .u) hm (by assumption))
    | with_reducible exact pos_of_rsh (wy := .u) hm hp (by assumption) (rsh_u)
    | exact hm
    | with_reducible exact (shift_ok (by assumption) hb hp).1
    | with_reducible exact (shift_ok (by assumption) hb hp).2
    | (exfalso; omega)
set_option maxRecDepth 100000 in
set_option maxHeartbeats 8000000 in
theorem c_norm_d (w : World) (news : List (Addr × Obj)) (man exp prec : Int) (t u v x y z : Tok) (hm : 0 < man) (hp : 1 ≤ prec) (hb : (intBits man : Int) ≤ 100000) :
    Ctr w 71 2 news [.int 0 t, .int man u, .int exp v, .int (intBits man) x, .int prec y, .str (Str.ofString "d") z] (RetT4 news 0 (rn .d man exp prec).1 (rn .d man exp prec).2.1 (rn .d man exp prec).2.2) := by
  w_top off
  dsimp only [Ctr, RetI, RetT2, RetT4, RetB, RetZ]
  k_fill
  intro pp loose mean mg mb dp un gd cn cs a ccd cl outer A₀ base h₀ L m s hxx Q E B F X N T hk hdp hu hcalm hret
  refine wpAny_call ?_
  k_dflt (refine' code_def ?k1 ?k2 ?k3 ?k4 ?k5 ?kA ?kF ?kK ?k6 ?k7 ?k8 ?k9 ?kB ?_ ?c2 ?c3 ?c4 ?c5; (case kA => exact rfl); (case kF => exact rfl); (case kK => assumption); (case k1 => k_asm); (case k2 => k_asm); (case k3 => k_asm); (case k4 => k_asm); (case k5 => k_asm); (case k6 => k_is); (case k7 => k_is); (case k8 => first | ((try dsimp only [Mine.ktrX]); (try simp only [depth_under_make, depth_under_kw, depth_in1, depth_deeper, depth_caller]); (try dsimp only [Mine.ktrX]); omega) | ((try dsimp only [Mine.ktrX] at *); ktr_room)); (case k9 => first | exact BindsTo.of_eq rfl | exact binds_K (by k_in) rfl (by k_is) rfl rfl rfl); (case c5 => decide); (case kB => exact locs rfl); (case c2 => exact rfl); (case c3 => exact rfl); (case c4 => exact rfl); k_whole; intro g' L' h' FG' F' N' B' X' T'; (try dsimp only); (try k_lift B'); (try k_fold))
  k_with_none
  repeat' (first | (k_unfold; (try dsimp only)) | walk1 | (dsimp only; walk1) | (leave1; try dsimp only) | fail "no step")
  all_goals first
    | (rename Fr _ _ _ _ => lF; rename News _ _ _ _ => lN; refine retN_end hret ?_ lF lN (by k_mem) (by first | exact fun _ h => .tail _ h | exact fun _ h => h | exact fun _ h => .tail _ (.tail _ h) | exact fun _ h => .tail _ (.tail _ (.tail _ h)) | exact fun _ h => .tail _ (.tail _ (.tail _ (.tail _ h))) | exact fun _ h => .tail _ (.tail _ (.tail _ (.tail _ (.tail _ h)))))
       first
         | with_reducible exact endR_odd1 (wy := .d) hm hp (by assumption) (rsh_d) (by assumption) (by assumption)
         | with_reducible exact endR_odd (wy := .d) hm hp (by assumption) (rsh_d) (by assumption) (by assumption)
         | with_reducible exact endR_even1 (wy := .d) (by assumption) (rsh_d) (by assumption)
         | with_reducible exact endR_even (wy := .d) hm hp (by assumption) (rsh_d) (by assumption)
         | with_reducible exact endN_odd1 (wy := .d) hm (by assumption) (by assumption) (by assumption)
         | with_reducible exact endN_odd (wy := .d) hm (by assumption) (by assumption)
         | with_reducible exact endN_even1 (wy := .d) (by assumption) (by assumption)
         | with_reducible exact endN_even (wy := .d) hm (by assumption))
    | with_reducible exact pos_of_rsh (wy := .d) hm hp (by assumption) (rsh_d)
    | exact hm
    | with_reducible exact (shift_ok (by assumption) hb hp).1
    | with_reducible exact (shift_ok (by assumption) hb hp).2
    | (exfalso; omega)
local macro_rules | `(tactic| walk_at "binaryOp BitAnd int int") => `(tactic| (refine Mine.and_w ?_; (try dsimp only)))
local macro_rules | `(tactic| walk_at "binaryOp RShift int int") => `(tactic| (refine Mine.rshift_w (by omega) ?_; (try dsimp only)))
local macro_rules | `(tactic| walk_at "binaryOp LShift int int") => `(tactic| (refine Mine.lshift_w ?_ ?_ ?_; rotate_left 2; (try dsimp only)))
set_option maxRecDepth 100000 in
set_option maxHeartbeats 8000000 in
theorem c_norm_n (w : World) (news : List (Addr × Obj)) (man exp prec : Int) (t u v x y z : Tok) (hm : 0 < man) (hp : 1 ≤ prec) (hb : (intBits man : Int) ≤ 100000) :
    Ctr w 71 2 news [.int 0 t, .int man u, .int exp v, .int (intBits man) x, .int prec y, .str (Str.ofString "n") z] (RetT4 news 0 (rn .n man exp prec).1 (rn .n man exp prec).2.1 (rn .n man exp prec).2.2) := by
  w_top off
  dsimp only [Ctr, RetI, RetT2, RetT4, RetB, RetZ]
  k_fill
  intro pp loose mean mg mb dp un gd cn cs a ccd cl outer A₀ base h₀ L m s hxx Q E B F X N T hk hdp hu hcalm hret
  refine wpAny_call ?_
  k_dflt (refine' code_def ?k1 ?k2 ?k3 ?k4 ?k5 ?kA ?kF ?kK ?k6 ?k7 ?k8 ?k9 ?kB ?_ ?c2 ?c3 ?c4 ?c5; (case kA => exact rfl); (case kF => exact rfl); (case kK => assumption); (case k1 => k_asm); (case k2 => k_asm); (case k3 => k_asm); (case k4 => k_asm); (case k5 => k_asm); (case k6 => k_is); (case k7 => k_is); (case k8 => first | ((try dsimp only [Mine.ktrX]); (try simp only [depth_under_make, depth_under_kw, depth_in1, depth_deeper, depth_caller]); (try dsimp only [Mine.ktrX]); omega) | ((try dsimp only [Mine.ktrX] at *); ktr_room)); (case k9 => first | exact BindsTo.of_eq rfl | exact binds_K (by k_in) rfl (by k_is) rfl rfl rfl); (case c5 => decide); (case kB => exact locs rfl); (case c2 => exact rfl); (case c3 => exact rfl); (case c4 => exact rfl); k_whole; intro g' L' h' FG' F' N' B' X' T'; (try dsimp only); (try k_lift B'); (try k_fold))
  k_with_none
  repeat' (first | (k_unfold; (try dsimp only)) | walk1 | (dsimp only; walk1) | (leave1; try dsimp only) | fail "no step")
  all_goals first
    | (rename Fr _ _ _ _ => lF; rename News _ _ _ _ => lN; refine retN_end hret ?_ lF lN (by k_mem) (by first | exact fun _ h => .tail _ h | exact fun _ h => h | exact fun _ h => .tail _ (.tail _ h) | exact fun _ h => .tail _ (.tail _ (.tail _ h)) | exact fun _ h => .tail _ (.tail _ (.tail _ (.tail _ h))) | exact fun _ h => .tail _ (.tail _ (.tail _ (.tail _ (.tail _ h)))))
       first
         | with_reducible exact endW_odd1 (wy := .n) hm hp (by assumption) (rsh_w1 (by assumption) (by assumption)) (by assumption) (by assumption)
         | with_reducible exact endW_odd (wy := .n) hm hp (by assumption) (rsh_w1 (by assumption) (by assumption)) (by assumption) (by assumption)
         | with_reducible exact endR_even1 (wy := .n) (by assumption) (rsh_w1 (by assumption) (by assumption)) (by assumption)
         | with_reducible exact endR_even (wy := .n) hm hp (by assumption) (rsh_w1 (by assumption) (by assumption)) (by assumption)
         | with_reducible exact endW_odd1 (wy := .n) hm hp (by assumption) (rsh_w2 (by assumption) (by assumption)) (by assumption) (by assumption)
         | with_reducible exact endW_odd (wy := .n) hm hp (by assumption) (rsh_w2 (by assumption) (by assumption)) (by assumption) (by assumption)
         | with_reducible exact endR_even1 (wy := .n) (by assumption) (rsh_w2 (by assumption) (by assumption)) (by assumption)
         | with_reducible exact endR_even (wy := .n) hm hp (by assumption) (rsh_w2 (by assumption) (by assumption)) (by assumption)
         | with_reducible exact endW_odd1 (wy := .n) hm hp (by assumption) (rsh_w3 (by assumption)) (by assumption) (by assumption)
         | with_reducible exact endW_odd (wy := .n) hm hp (by assumption) (rsh_w3 (by assumption)) (by assumption) (by assumption)
         | with_reducible exact endR_even1 (wy := .n) (by assumption) (rsh_w3 (by assumption)) (by assumption)
         | with_reducible exact endR_even (wy := .n) hm hp (by assumption) (rsh_w3 (by assumption)) (by assumption)
         | with_reducible exact endW_odd1 (wy := .n) hm hp (by assumption) (rsh_w4 (by assumption) (by assumption)) (by assumption) (by assumption)
         | with_reducible exact endW_odd (wy := .n) hm hp (by assumption) (rsh_w4 (by assumption) (by assumption)) (by assumption) (by assumption)
         | with_reducible exact endR_even1 (wy := .n) (by assumption) (rsh_w4 (by assumption) (by assumption)) (by assumption)
         | with_reducible exact endR_even (wy := .n) hm hp (by assumption) (rsh_w4 (by assumption) (by assumption)) (by assumption)
         | with_reducible exact endX_odd1 (wy := .n) hm (by assumption) (by assumption) (by assumption)
         | with_reducible exact endX_odd (wy := .n) hm (by assumption) (by assumption)
         | with_reducible exact endN_even1 (wy := .n) (by assumption) (by assumption)
         | with_reducible exact endN_even (wy := .n) hm (by assumption))
    | with_reducible exact pos_of_rsh (wy := .n) hm hp (by assumption) (rsh_w1 (by assumption) (by assumption))
    | with_reducible exact pos_of_rsh (wy := .n) hm hp (by assumption) (rsh_w2 (by assumption) (by assumption))
    | with_reducible exact pos_of_rsh (wy := .n) hm hp (by assumption) (rsh_w3 (by assumption))
    | with_reducible exact pos_of_rsh (wy := .n) hm hp (by assumption) (rsh_w4 (by assumption) (by assumption))
    | exact hm
    | with_reducible exact (shift_ok (by assumption) hb hp).1
    | with_reducible exact (shift_ok (by assumption) hb hp).2
    | (exfalso; omega)
end Mine

end
section
local macro_rules | `(tactic| walk_at "none 0") => `(tactic| fail)
local macro_rules | `(tactic| walk_at "none 1") => `(tactic| fail)
local macro_rules | `(tactic| walk_at "none 2") => `(tactic| fail)
local macro_rules | `(tactic| walk_at "none 3") => `(tactic| fail)
local macro_rules | `(tactic| walk_at "none 4") => `(tactic| fail)
local macro_rules | `(tactic| walk_at "none 5") => `(tactic| fail)
local macro_rules | `(tactic| walk_at "none 6") => `(tactic| fail)
local macro_rules | `(tactic| walk_at "none 7") => `(tactic| fail)
local macro_rules | `(tactic| walk_at "none 8") => `(tactic| fail)
local macro_rules | `(tactic| walk_at "none 9") => `(tactic| fail)
local macro_rules | `(tactic| walk_at "binaryOp LShift int int") => `(tactic| (refine PyProof.Rows.lshift_int ?_ ?_ ?_; rotate_left 2))
local macro_rules | `(tactic| walk_at "binaryOp FloorDiv int int") => `(tactic| (refine PyProof.Rows.floordiv_int (Mine.ninv_pos (by assumption)) ?_ (Or.inl (PyProof.noPylong_of_log2 (Mine.ninv_log (by assumption))))))
local macro_rules | `(tactic| walk_at "binaryOp Mult int int") => `(tactic| (refine PyProof.Rows.mul_int ?_ ?_; (try dsimp only)))
local macro_rules | `(tactic| walk_at "binaryOp Pow int int") => `(tactic| (refine PyProof.Rows.pow_int ?_ ?_ ?_; rotate_left 2; (try dsimp only)))
local macro_rules | `(tactic| walk_at "execs cons") => `(tactic| (with_reducible (refine Mine.gen_toks ?_; intro tk; refine wpAny_execs_cons ?_); (try dsimp only)))
local macro_rules | `(tactic| walk_at "execs nil") => `(tactic| (with_reducible (refine Mine.gen_toks ?_; intro tk; refine wpAny_execs_nil ?_); (try dsimp only)))
local macro_rules | `(tactic| walk_at "unpackItems ref") => `(tactic| (k_here; k_dflt (refine' Mine.unpack_calm ?kA ?kC ?k1 ?k2 ?k3 ?k5 ?_; (case kA => exact rfl); (case k1 => k_asm); (case k2 => k_asm); (case kC => first | exact Mine.CalmN.at (by assumption) (by k_asm) (by first | exact fun _ h => h | exact fun _ h => .tail _ h | exact fun _ h => .tail _ (.tail _ h) | exact fun _ h => .tail _ (.tail _ (.tail _ h)) | exact fun _ h => .tail _ (.tail _ (.tail _ (.tail _ h))) | exact fun _ h => .tail _ (.tail _ (.tail _ (.tail _ (.tail _ h)))) | exact fun _ h => .tail _ (.tail _ (.tail _ (.tail _ (.tail _ (.tail _ h))))) | exact fun _ h => .tail _ (.tail _ (.tail _ (.tail _ (.tail _ (.tail _ (.tail _ h)))))) | exact fun _ h => .tail _ (.tail _ (.tail _ (.tail _ (.tail _ (.tail _ (.tail _ (.tail _ h))))))) | exact fun _ h => .tail _ (.tail _ (.tail _ (.tail _ (.tail _ (.tail _ (.tail _ (.tail _ (.tail _ h)))))))) | exact fun _ h => .tail _ (.tail _ (.tail _ (.tail _ (.tail _ (.tail _ (.tail _ (.tail _ (.tail _ (.tail _ h))))))))) | exact fun _ h => .tail _ (.tail _ (.tail _ (.tail _ (.tail _ (.tail _ (.tail _ (.tail _ (.tail _ (.tail _ (.tail _ h)))))))))) | exact fun _ h => .tail _ (.tail _ (.tail _ (.tail _ (.tail _ (.tail _ (.tail _ (.tail _ (.tail _ (.tail _ (.tail _ (.tail _ h))))))))))) | exact fun _ h => .tail _ (.tail _ (.tail _ (.tail _ (.tail _ (.tail _ (.tail _ (.tail _ (.tail _ (.tail _ (.tail _ (.tail _ (.tail _ h)))))))))))) | exact fun _ h => .tail _ (.tail _ (.tail _ (.tail _ (.tail _ (.tail _ (.tail _ (.tail _ (.tail _ (.tail _ (.tail _ (.tail _ (.tail _ (.tail _ h))))))))))))) | exact fun _ h => .tail _ (.tail _ (.tail _ (.tail _ (.tail _ (.tail _ (.tail _ (.tail _ (.tail _ (.tail _ (.tail _ (.tail _ (.tail _ (.tail _ (.tail _ h))))))))))))))) | exact Or.inl rfl); (case k3 => kun_tup); (case k5 => exact rfl); k_whole); intro h' F' N'; (try k_sweep)))
local macro_rules | `(tactic| walk_at "assign Tuple") => `(tactic| (k_here; (with_reducible show wpAny _ _ (assign (Expr.Tuple _ _ _) _ (Value.ref _)) _ _ _); k_dflt (refine' Mine.assign_calm ?kA ?kC ?k1 ?k2 ?k3 ?k5 ?k6 ?_; (case kA => exact rfl); (case k1 => k_asm); (case k2 => k_asm); (case kC => first | exact Mine.CalmN.at (by assumption) (by k_asm) (by first | exact fun _ h => h | exact fun _ h => .tail _ h | exact fun _ h => .tail _ (.tail _ h) | exact fun _ h => .tail _ (.tail _ (.tail _ h)) | exact fun _ h => .tail _ (.tail _ (.tail _ (.tail _ h))) | exact fun _ h => .tail _ (.tail _ (.tail _ (.tail _ (.tail _ h)))) | exact fun _ h => .tail _ (.tail _ (.tail _ (.tail _ (.tail _ (.tail _ h))))) | exact fun _ h => .tail _ (.tail _ (.tail _ (.tail _ (.tail _ (.tail _ (.tail _ h)))))) | exact fun _ h => .tail _ (.tail _ (.tail _ (.tail _ (.tail _ (.tail _ (.tail _ (.tail _ h))))))) | exact fun _ h => .tail _ (.tail _ (.tail _ (.tail _ (.tail _ (.tail _ (.tail _ (.tail _ (.tail _ h)))))))) | exact fun _ h => .tail _ (.tail _ (.tail _ (.tail _ (.tail _ (.tail _ (.tail _ (.tail _ (.tail _ (.tail _ h))))))))) | exact fun _ h => .tail _ (.tail _ (.tail _ (.tail _ (.tail _ (.tail _ (.tail _ (.tail _ (.tail _ (.tail _ (.tail _ h)))))))))) | exact fun _ h => .tail _ (.tail _ (.tail _ (.tail _ (.tail _ (.tail _ (.tail _ (.tail _ (.tail _ (.tail _ (.tail _ (.tail _ h))))))))))) | exact fun _ h => .tail _ (.tail _ (.tail _ (.tail _ (.tail _ (.tail _ (.tail _ (.tail _ (.tail _ (.tail _ (.tail _ (.tail _ (.tail _ h)))))))))))) | exact fun _ h => .tail _ (.tail _ (.tail _ (.tail _ (.tail _ (.tail _ (.tail _ (.tail _ (.tail _ (.tail _ (.tail _ (.tail _ (.tail _ (.tail _ h))))))))))))) | exact fun _ h => .tail _ (.tail _ (.tail _ (.tail _ (.tail _ (.tail _ (.tail _ (.tail _ (.tail _ (.tail _ (.tail _ (.tail _ (.tail _ (.tail _ (.tail _ h))))))))))))))) | exact Or.inl rfl); (case k3 => kun_tup); (case k5 => exact rfl); (case k6 => exact rfl); k_whole); intro h' F' N'; (try k_sweep)))
local macro_rules | `(tactic| walk_at "call builtin:min") => `(tactic| (k_here; (with_reducible show wpAny _ _ (call (Value.builtin _) [Value.int _ _, Value.int _ _]) _ _ _); k_dflt (refine' Mine.min_calm ?kA ?kC ?k1 ?k2 ?_; (case kA => exact rfl); (case k1 => k_asm); (case k2 => k_asm); (case kC => first | exact Mine.CalmN.at (by assumption) (by k_asm) (by first | exact fun _ h => h | exact fun _ h => .tail _ h | exact fun _ h => .tail _ (.tail _ h) | exact fun _ h => .tail _ (.tail _ (.tail _ h)) | exact fun _ h => .tail _ (.tail _ (.tail _ (.tail _ h))) | exact fun _ h => .tail _ (.tail _ (.tail _ (.tail _ (.tail _ h)))) | exact fun _ h => .tail _ (.tail _ (.tail _ (.tail _ (.tail _ (.tail _ h))))) | exact fun _ h => .tail _ (.tail _ (.tail _ (.tail _ (.tail _ (.tail _ (.tail _ h)))))) | exact fun _ h => .tail _ (.tail _ (.tail _ (.tail _ (.tail _ (.tail _ (.tail _ (.tail _ h))))))) | exact fun _ h => .tail _ (.tail _ (.tail _ (.tail _ (.tail _ (.tail _ (.tail _ (.tail _ (.tail _ h)))))))) | exact fun _ h => .tail _ (.tail _ (.tail _ (.tail _ (.tail _ (.tail _ (.tail _ (.tail _ (.tail _ (.tail _ h))))))))) | exact fun _ h => .tail _ (.tail _ (.tail _ (.tail _ (.tail _ (.tail _ (.tail _ (.tail _ (.tail _ (.tail _ (.tail _ h)))))))))) | exact fun _ h => .tail _ (.tail _ (.tail _ (.tail _ (.tail _ (.tail _ (.tail _ (.tail _ (.tail _ (.tail _ (.tail _ (.tail _ h))))))))))) | exact fun _ h => .tail _ (.tail _ (.tail _ (.tail _ (.tail _ (.tail _ (.tail _ (.tail _ (.tail _ (.tail _ (.tail _ (.tail _ (.tail _ h)))))))))))) | exact fun _ h => .tail _ (.tail _ (.tail _ (.tail _ (.tail _ (.tail _ (.tail _ (.tail _ (.tail _ (.tail _ (.tail _ (.tail _ (.tail _ (.tail _ h))))))))))))) | exact fun _ h => .tail _ (.tail _ (.tail _ (.tail _ (.tail _ (.tail _ (.tail _ (.tail _ (.tail _ (.tail _ (.tail _ (.tail _ (.tail _ (.tail _ (.tail _ h))))))))))))))) | exact Or.inl rfl); k_whole); intro h9 tk9 F9 N9; (try dsimp only)))
local macro_rules | `(tactic| walk_at "call builtin:max") => `(tactic| (k_here; (with_reducible show wpAny _ _ (call (Value.builtin _) [Value.int _ _, Value.int _ _]) _ _ _); k_dflt (refine' Mine.max_wc ?kA ?kC ?k1 ?k2 ?_; (case kA => exact rfl); (case k1 => k_asm); (case k2 => k_asm); (case kC => first | exact Mine.CalmN.at (by assumption) (by k_asm) (by first | exact fun _ h => h | exact fun _ h => .tail _ h | exact fun _ h => .tail _ (.tail _ h) | exact fun _ h => .tail _ (.tail _ (.tail _ h)) | exact fun _ h => .tail _ (.tail _ (.tail _ (.tail _ h))) | exact fun _ h => .tail _ (.tail _ (.tail _ (.tail _ (.tail _ h)))) | exact fun _ h => .tail _ (.tail _ (.tail _ (.tail _ (.tail _ (.tail _ h))))) | exact fun _ h => .tail _ (.tail _ (.tail _ (.tail _ (.tail _ (.tail _ (.tail _ h)))))) | exact fun _ h => .tail _ (.tail _ (.tail _ (.tail _ (.tail _ (.tail _ (.tail _ (.tail _ h))))))) | exact fun _ h => .tail _ (.tail _ (.tail _ (.tail _ (.tail _ (.tail _ (.tail _ (.tail _ (.tail _ h)))))))) | exact fun _ h => .tail _ (.tail _ (.tail _ (.tail _ (.tail _ (.tail _ (.tail _ (.tail _ (.tail _ (.tail _ h))))))))) | exact fun _ h => .tail _ (.tail _ (.tail _ (.tail _ (.tail _ (.tail _ (.tail _ (.tail _ (.tail _ (.tail _ (.tail _ h)))))))))) | exact fun _ h => .tail _ (.tail _ (.tail _ (.tail _ (.tail _ (.tail _ (.tail _ (.tail _ (.tail _ (.tail _ (.tail _ (.tail _ h))))))))))) | exact fun _ h => .tail _ (.tail _ (.tail _ (.tail _ (.tail _ (.tail _ (.tail _ (.tail _ (.tail _ (.tail _ (.tail _ (.tail _ (.tail _ h)))))))))))) | exact fun _ h => .tail _ (.tail _ (.tail _ (.tail _ (.tail _ (.tail _ (.tail _ (.tail _ (.tail _ (.tail _ (.tail _ (.tail _ (.tail _ (.tail _ h))))))))))))) | exact fun _ h => .tail _ (.tail _ (.tail _ (.tail _ (.tail _ (.tail _ (.tail _ (.tail _ (.tail _ (.tail _ (.tail _ (.tail _ (.tail _ (.tail _ (.tail _ h))))))))))))))) | exact Or.inl rfl); k_whole); intro v9 h9 tk9 F9 N9; (try dsimp only)))
local macro_rules | `(tactic| walk_at "exec Assert") => `(tactic| (refine Mine.assert_holds ?_))

namespace Mine
open PySem.Builtin.Int (intBits)
theorem c_norm (wy : Way) (w : World) (news : List (Addr × Obj)) (man exp prec : Int) (t u v x y z : Tok) (hm : 0 < man) (hp : 1 ≤ prec) (hb : (intBits man : Int) ≤ 100000) :
    Ctr w 71 2 news [.int 0 t, .int man u, .int exp v, .int (intBits man) x, .int prec y, .str wy.str z] (RetT4 news 0 (rn wy man exp prec).1 (rn wy man exp prec).2.1 (rn wy man exp prec).2.2) := by
  cases wy with
  | n => rw [Way.str_n]; exact c_norm_n w news man exp prec t u v x y z hm hp hb
  | f => rw [Way.str_f]; exact c_norm_f w news man exp prec t u v x y z hm hp hb
  | c => rw [Way.str_c]; exact c_norm_c w news man exp prec t u v x y z hm hp hb
  | u => rw [Way.str_u]; exact c_norm_u w news man exp prec t u v x y z hm hp hb
  | d => rw [Way.str_d]; exact c_norm_d w news man exp prec t u v x y z hm hp hb
local macro_rules | `(tactic| walk_at "call ref") => `(tactic| (k_here; (with_reducible show wpAny _ _ (call (Value.ref 71) _) _ _ _); k_dflt (refine' Mine.Ctr.use (Mine.c_norm _ _ _ _ _ _ _ _ _ _ _ _ ?_ ?_ ?_) ?k1 ?k2 ?k3 ?k4 ?k5 ?k6 ?k7 ?k8 ?k9 ?_; (case k1 => k_asm); (case k2 => k_asm); (case k3 => k_asm); (case k4 => k_asm); (case k5 => k_asm); (case k9 => first | assumption | exact Mine.CalmN.sub (by assumption) (by first | exact fun _ h => h | exact fun _ h => .tail _ h | exact fun _ h => .tail _ (.tail _ h) | exact fun _ h => .tail _ (.tail _ (.tail _ h)) | exact fun _ h => .tail _ (.tail _ (.tail _ (.tail _ h))) | exact fun _ h => .tail _ (.tail _ (.tail _ (.tail _ (.tail _ h)))) | exact fun _ h => .tail _ (.tail _ (.tail _ (.tail _ (.tail _ (.tail _ h))))) | exact fun _ h => .tail _ (.tail _ (.tail _ (.tail _ (.tail _ (.tail _ (.tail _ h)))))) | exact fun _ h => .tail _ (.tail _ (.tail _ (.tail _ (.tail _ (.tail _ (.tail _ (.tail _ h))))))) | exact fun _ h => .tail _ (.tail _ (.tail _ (.tail _ (.tail _ (.tail _ (.tail _ (.tail _ (.tail _ h)))))))) | exact fun _ h => .tail _ (.tail _ (.tail _ (.tail _ (.tail _ (.tail _ (.tail _ (.tail _ (.tail _ (.tail _ h))))))))) | exact fun _ h => .tail _ (.tail _ (.tail _ (.tail _ (.tail _ (.tail _ (.tail _ (.tail _ (.tail _ (.tail _ (.tail _ h)))))))))) | exact fun _ h => .tail _ (.tail _ (.tail _ (.tail _ (.tail _ (.tail _ (.tail _ (.tail _ (.tail _ (.tail _ (.tail _ (.tail _ h))))))))))) | exact fun _ h => .tail _ (.tail _ (.tail _ (.tail _ (.tail _ (.tail _ (.tail _ (.tail _ (.tail _ (.tail _ (.tail _ (.tail _ (.tail _ h)))))))))))) | exact fun _ h => .tail _ (.tail _ (.tail _ (.tail _ (.tail _ (.tail _ (.tail _ (.tail _ (.tail _ (.tail _ (.tail _ (.tail _ (.tail _ (.tail _ h))))))))))))) | exact fun _ h => .tail _ (.tail _ (.tail _ (.tail _ (.tail _ (.tail _ (.tail _ (.tail _ (.tail _ (.tail _ (.tail _ (.tail _ (.tail _ (.tail _ (.tail _ h))))))))))))))) | exact Or.inl rfl); (case k6 => first | exact rfl | assumption); (case k7 => first | ((try dsimp only [Mine.ktrX]); (try simp only [depth_under_make, depth_under_kw, depth_in1, depth_deeper, depth_caller]); (try dsimp only [Mine.ktrX]); omega) | ((try dsimp only [Mine.ktrX] at *); ktr_room)); (case k8 => first | ((try dsimp only [Mine.ktrX]); (try simp only [units_in1, units_deeper, Around.mark_units, units_caller]); (try dsimp only [Mine.ktrX]); omega) | ((try dsimp only [Mine.ktrX] at *); ktr_units)); (first | assumption | k_mem | omega | rotate_left); (first | assumption | k_mem | omega | rotate_left); (first | assumption | k_mem | omega | rotate_left)); intro D9 t9 u9 v9 x9 h9 tk9 F9 N9; (try dsimp only); (try k_fold)))
set_option maxRecDepth 100000 in
set_option maxHeartbeats 8000000 in
theorem c_normalize (wy : Way) (w : World) (news : List (Addr × Obj)) (man exp prec : Int) (t u v x y z : Tok) (hm : 0 < man) (hp : 1 ≤ prec) (hb : (intBits man : Int) ≤ 100000) :
    Ctr w 78 3 news [.int 0 t, .int man u, .int exp v, .int (intBits man) x, .int prec y, .str wy.str z] (RetT4 news 0 (rn wy man exp prec).1 (rn wy man exp prec).2.1 (rn wy man exp prec).2.2) := by
  w_top off
  dsimp only [Ctr, RetI, RetT2, RetT4, RetB, RetZ]
  k_fill
  intro pp loose mean mg mb dp un gd cn cs a ccd cl outer A₀ base h₀ L m s hxx Q E B F X N T hk hdp hu hcalm hret
  refine wpAny_call ?_
  k_dflt (refine' code_def ?k1 ?k2 ?k3 ?k4 ?k5 ?kA ?kF ?kK ?k6 ?k7 ?k8 ?k9 ?kB ?_ ?c2 ?c3 ?c4 ?c5; (case kA => exact rfl); (case kF => exact rfl); (case kK => assumption); (case k1 => k_asm); (case k2 => k_asm); (case k3 => k_asm); (case k4 => k_asm); (case k5 => k_asm); (case k6 => k_is); (case k7 => k_is); (case k8 => first | ((try dsimp only [Mine.ktrX]); (try simp only [depth_under_make, depth_under_kw, depth_in1, depth_deeper, depth_caller]); (try dsimp only [Mine.ktrX]); omega) | ((try dsimp only [Mine.ktrX] at *); ktr_room)); (case k9 => first | exact BindsTo.of_eq rfl | exact binds_K (by k_in) rfl (by k_is) rfl rfl rfl); (case c5 => decide); (case kB => exact locs rfl); (case c2 => exact rfl); (case c3 => exact rfl); (case c4 => exact rfl); k_whole; intro g' L' h' FG' F' N' B' X' T'; (try dsimp only); (try k_lift B'); (try k_fold))
  k_with_none
  repeat' (first | (k_unfold; (try dsimp only)) | walk1 | (dsimp only; walk1) | (leave1; try dsimp only) | fail "no step")
  all_goals first
    | (rename Fr _ _ _ _ => lF; rename News _ _ _ _ => lN; exact retT4_end hret rfl rfl rfl rfl lF lN (by k_mem) (by first | exact fun _ h => .tail _ h | exact fun _ h => h | exact fun _ h => .tail _ (.tail _ h) | exact fun _ h => .tail _ (.tail _ (.tail _ h)) | exact fun _ h => .tail _ (.tail _ (.tail _ (.tail _ h))) | exact fun _ h => .tail _ (.tail _ (.tail _ (.tail _ (.tail _ h))))))
    | (exfalso; omega)
set_option maxRecDepth 100000 in
set_option maxHeartbeats 8000000 in
theorem c_norm0 (w : World) (news : List (Addr × Obj)) (t u v x y z : Tok) (prec : Int) (rnd : Str) :
    Ctr w 71 1 news [.int 0 t, .int 0 u, .int 0 v, .int 0 x, .int prec y, .str rnd z] (RetZ news) := by
  w_top off
  dsimp only [Ctr, RetI, RetT2, RetT4, RetB, RetZ]
  k_fill
  intro pp loose mean mg mb dp un gd cn cs a ccd cl outer A₀ base h₀ L m s hxx Q E B F X N T hk hdp hu hcalm hret
  refine wpAny_call ?_
  k_dflt (refine' code_def ?k1 ?k2 ?k3 ?k4 ?k5 ?kA ?kF ?kK ?k6 ?k7 ?k8 ?k9 ?kB ?_ ?c2 ?c3 ?c4 ?c5; (case kA => exact rfl); (case kF => exact rfl); (case kK => assumption); (case k1 => k_asm); (case k2 => k_asm); (case k3 => k_asm); (case k4 => k_asm); (case k5 => k_asm); (case k6 => k_is); (case k7 => k_is); (case k8 => first | ((try dsimp only [Mine.ktrX]); (try simp only [depth_under_make, depth_under_kw, depth_in1, depth_deeper, depth_caller]); (try dsimp only [Mine.ktrX]); omega) | ((try dsimp only [Mine.ktrX] at *); ktr_room)); (case k9 => first | exact BindsTo.of_eq rfl | exact binds_K (by k_in) rfl (by k_is) rfl rfl rfl); (case c5 => decide); (case kB => exact locs rfl); (case c2 => exact rfl); (case c3 => exact rfl); (case c4 => exact rfl); k_whole; intro g' L' h' FG' F' N' B' X' T'; (try dsimp only); (try k_lift B'); (try k_fold))
  k_with_none
  repeat' (first | (k_unfold; (try dsimp only)) | walk1 | (dsimp only; walk1) | (leave1; try dsimp only) | fail "no step")
  all_goals first
    | exact retZ_end hret (by k_asm) (by k_asm) (by first | exact fun _ h => .tail _ h | exact fun _ h => h | exact fun _ h => .tail _ (.tail _ h) | exact fun _ h => .tail _ (.tail _ (.tail _ h)) | exact fun _ h => .tail _ (.tail _ (.tail _ (.tail _ h))) | exact fun _ h => .tail _ (.tail _ (.tail _ (.tail _ (.tail _ h)))))
    | (exfalso; omega)
local macro_rules | `(tactic| walk_at "call ref") => `(tactic| (k_here; (with_reducible show wpAny _ _ (call (Value.ref 71) _) _ _ _); k_dflt (refine' Mine.Ctr.use (Mine.c_norm0 _ _ _ _ _ _ _ _ _ _ ) ?k1 ?k2 ?k3 ?k4 ?k5 ?k6 ?k7 ?k8 ?k9 ?_; (case k1 => k_asm); (case k2 => k_asm); (case k3 => k_asm); (case k4 => k_asm); (case k5 => k_asm); (case k9 => first | assumption | exact Mine.CalmN.sub (by assumption) (by first | exact fun _ h => h | exact fun _ h => .tail _ h | exact fun _ h => .tail _ (.tail _ h) | exact fun _ h => .tail _ (.tail _ (.tail _ h)) | exact fun _ h => .tail _ (.tail _ (.tail _ (.tail _ h))) | exact fun _ h => .tail _ (.tail _ (.tail _ (.tail _ (.tail _ h)))) | exact fun _ h => .tail _ (.tail _ (.tail _ (.tail _ (.tail _ (.tail _ h))))) | exact fun _ h => .tail _ (.tail _ (.tail _ (.tail _ (.tail _ (.tail _ (.tail _ h)))))) | exact fun _ h => .tail _ (.tail _ (.tail _ (.tail _ (.tail _ (.tail _ (.tail _ (.tail _ h))))))) | exact fun _ h => .tail _ (.tail _ (.tail _ (.tail _ (.tail _ (.tail _ (.tail _ (.tail _ (.tail _ h)))))))) | exact fun _ h => .tail _ (.tail _ (.tail _ (.tail _ (.tail _ (.tail _ (.tail _ (.tail _ (.tail _ (.tail _ h))))))))) | exact fun _ h => .tail _ (.tail _ (.tail _ (.tail _ (.tail _ (.tail _ (.tail _ (.tail _ (.tail _ (.tail _ (.tail _ h)))))))))) | exact fun _ h => .tail _ (.tail _ (.tail _ (.tail _ (.tail _ (.tail _ (.tail _ (.tail _ (.tail _ (.tail _ (.tail _ (.tail _ h))))))))))) | exact fun _ h => .tail _ (.tail _ (.tail _ (.tail _ (.tail _ (.tail _ (.tail _ (.tail _ (.tail _ (.tail _ (.tail _ (.tail _ (.tail _ h)))))))))))) | exact fun _ h => .tail _ (.tail _ (.tail _ (.tail _ (.tail _ (.tail _ (.tail _ (.tail _ (.tail _ (.tail _ (.tail _ (.tail _ (.tail _ (.tail _ h))))))))))))) | exact fun _ h => .tail _ (.tail _ (.tail _ (.tail _ (.tail _ (.tail _ (.tail _ (.tail _ (.tail _ (.tail _ (.tail _ (.tail _ (.tail _ (.tail _ (.tail _ h))))))))))))))) | exact Or.inl rfl); (case k6 => first | exact rfl | assumption); (case k7 => first | ((try dsimp only [Mine.ktrX]); (try simp only [depth_under_make, depth_under_kw, depth_in1, depth_deeper, depth_caller]); (try dsimp only [Mine.ktrX]); omega) | ((try dsimp only [Mine.ktrX] at *); ktr_room)); (case k8 => first | ((try dsimp only [Mine.ktrX]); (try simp only [units_in1, units_deeper, Around.mark_units, units_caller]); (try dsimp only [Mine.ktrX]); omega) | ((try dsimp only [Mine.ktrX] at *); ktr_units))); intro h9 tk9 F9 N9; (try dsimp only); (try k_fold)))
set_option maxRecDepth 100000 in
set_option maxHeartbeats 8000000 in
theorem c_normalize0 (wy : Way) (w : World) (news : List (Addr × Obj)) (t u v x y z : Tok) (prec : Int) :
    Ctr w 78 3 news [.int 0 t, .int 0 u, .int 0 v, .int 0 x, .int prec y, .str wy.str z] (RetZ news) := by
  w_top off
  dsimp only [Ctr, RetI, RetT2, RetT4, RetB, RetZ]
  k_fill
  intro pp loose mean mg mb dp un gd cn cs a ccd cl outer A₀ base h₀ L m s hxx Q E B F X N T hk hdp hu hcalm hret
  refine wpAny_call ?_
  k_dflt (refine' code_def ?k1 ?k2 ?k3 ?k4 ?k5 ?kA ?kF ?kK ?k6 ?k7 ?k8 ?k9 ?kB ?_ ?c2 ?c3 ?c4 ?c5; (case kA => exact rfl); (case kF => exact rfl); (case kK => assumption); (case k1 => k_asm); (case k2 => k_asm); (case k3 => k_asm); (case k4 => k_asm); (case k5 => k_asm); (case k6 => k_is); (case k7 => k_is); (case k8 => first | ((try dsimp only [Mine.ktrX]); (try simp only [depth_under_make, depth_under_kw, depth_in1, depth_deeper, depth_caller]); (try dsimp only [Mine.ktrX]); omega) | ((try dsimp only [Mine.ktrX] at *); ktr_room)); (case k9 => first | exact BindsTo.of_eq rfl | exact binds_K (by k_in) rfl (by k_is) rfl rfl rfl); (case c5 => decide); (case kB => exact locs rfl); (case c2 => exact rfl); (case c3 => exact rfl); (case c4 => exact rfl); k_whole; intro g' L' h' FG' F' N' B' X' T'; (try dsimp only); (try k_lift B'); (try k_fold))
  k_with_none
  repeat' (first | (k_unfold; (try dsimp only)) | walk1 | (dsimp only; walk1) | (leave1; try dsimp only) | fail "no step")
  all_goals first
    | exact retZ_end hret (by k_asm) (by k_asm) (by first | exact fun _ h => .tail _ h | exact fun _ h => h | exact fun _ h => .tail _ (.tail _ h) | exact fun _ h => .tail _ (.tail _ (.tail _ h)) | exact fun _ h => .tail _ (.tail _ (.tail _ (.tail _ h))) | exact fun _ h => .tail _ (.tail _ (.tail _ (.tail _ (.tail _ h)))))
    | (exfalso; omega)
end Mine
namespace Mine
open PySem.Builtin.Int (intBits)
theorem c_normalize_d (w : World) (news : List (Addr × Obj)) (man exp prec : Int) (t u v x y z : Tok) (hm : 0 < man) (hp : 1 ≤ prec) (hb : (intBits man : Int) ≤ 100000) :
    Ctr w 78 3 news [.int 0 t, .int man u, .int exp v, .int (intBits man) x, .int prec y, .str (Str.ofString "d") z] (RetT4 news 0 (rn .d man exp prec).1 (rn .d man exp prec).2.1 (rn .d man exp prec).2.2) := by
  rw [← Way.str_d]; exact c_normalize .d w news man exp prec t u v x y z hm hp hb
end Mine

end
section
local macro_rules | `(tactic| walk_at "none 0") => `(tactic| fail)
local macro_rules | `(tactic| walk_at "none 1") => `(tactic| fail)
local macro_rules | `(tactic| walk_at "none 2") => `(tactic| fail)
local macro_rules | `(tactic| walk_at "none 3") => `(tactic| fail)
local macro_rules | `(tactic| walk_at "none 4") => `(tactic| fail)
local macro_rules | `(tactic| walk_at "none 5") => `(tactic| fail)
local macro_rules | `(tactic| walk_at "none 6") => `(tactic| fail)
local macro_rules | `(tactic| walk_at "none 7") => `(tactic| fail)
local macro_rules | `(tactic| walk_at "none 8") => `(tactic| fail)
local macro_rules | `(tactic| walk_at "none 9") => `(tactic| fail)
local macro_rules | `(tactic| walk_at "binaryOp LShift int int") => `(tactic| (refine PyProof.Rows.lshift_int ?_ ?_ ?_; rotate_left 2))
local macro_rules | `(tactic| walk_at "binaryOp FloorDiv int int") => `(tactic| (refine PyProof.Rows.floordiv_int (Mine.ninv_pos (by assumption)) ?_ (Or.inl (PyProof.noPylong_of_log2 (Mine.ninv_log (by assumption))))))
local macro_rules | `(tactic| walk_at "binaryOp Mult int int") => `(tactic| (refine PyProof.Rows.mul_int ?_ ?_; (try dsimp only)))
local macro_rules | `(tactic| walk_at "binaryOp Pow int int") => `(tactic| (refine PyProof.Rows.pow_int ?_ ?_ ?_; rotate_left 2; (try dsimp only)))
local macro_rules | `(tactic| walk_at "execs cons") => `(tactic| (with_reducible (refine Mine.gen_toks ?_; intro tk; refine wpAny_execs_cons ?_); (try dsimp only)))
local macro_rules | `(tactic| walk_at "execs nil") => `(tactic| (with_reducible (refine Mine.gen_toks ?_; intro tk; refine wpAny_execs_nil ?_); (try dsimp only)))
local macro_rules | `(tactic| walk_at "unpackItems ref") => `(tactic| (k_here; k_dflt (refine' Mine.unpack_calm ?kA ?kC ?k1 ?k2 ?k3 ?k5 ?_; (case kA => exact rfl); (case k1 => k_asm); (case k2 => k_asm); (case kC => first | exact Mine.CalmN.at (by assumption) (by k_asm) (by first | exact fun _ h => h | exact fun _ h => .tail _ h | exact fun _ h => .tail _ (.tail _ h) | exact fun _ h => .tail _ (.tail _ (.tail _ h)) | exact fun _ h => .tail _ (.tail _ (.tail _ (.tail _ h))) | exact fun _ h => .tail _ (.tail _ (.tail _ (.tail _ (.tail _ h)))) | exact fun _ h => .tail _ (.tail _ (.tail _ (.tail _ (.tail _ (.tail _ h))))) | exact fun _ h => .tail _ (.tail _ (.tail _ (.tail _ (.tail _ (.tail _ (.tail _ h)))))) | exact fun _ h => .tail _ (.tail _ (.tail _ (.tail _ (.tail _ (.tail _ (.tail _ (.tail _ h))))))) | exact fun _ h => .tail _ (.tail _ (.tail _ (.tail _ (.tail _ (.tail _ (.tail _ (.tail _ (.tail _ h)))))))) | exact fun _ h => .tail _ (.tail _ (.tail _ (.tail _ (.tail _ (.tail _ (.tail _ (.tail _ (.tail _ (.tail _ h))))))))) | exact fun _ h => .tail _ (.tail _ (.tail _ (.tail _ (.tail _ (.tail _ (.tail _ (.tail _ (.tail _ (.tail _ (.tail _ h)))))))))) | exact fun _ h => .tail _ (.tail _ (.tail _ (.tail _ (.tail _ (.tail _ (.tail _ (.tail _ (.tail _ (.tail _ (.tail _ (.tail _ h))))))))))) | exact fun _ h => .tail _ (.tail _ (.tail _ (.tail _ (.tail _ (.tail _ (.tail _ (.tail _ (.tail _ (.tail _ (.tail _ (.tail _ (.tail _ h)))))))))))) | exact fun _ h => .tail _ (.tail _ (.tail _ (.tail _ (.tail _ (.tail _ (.tail _ (.tail _ (.tail _ (.tail _ (.tail _ (.tail _ (.tail _ (.tail _ h))))))))))))) | exact fun _ h => .tail _ (.tail _ (.tail _ (.tail _ (.tail _ (.tail _ (.tail _ (.tail _ (.tail _ (.tail _ (.tail _ (.tail _ (.tail _ (.tail _ (.tail _ h))))))))))))))) | exact Or.inl rfl); (case k3 => kun_tup); (case k5 => exact rfl); k_whole); intro h' F' N'; (try k_sweep)))
local macro_rules | `(tactic| walk_at "assign Tuple") => `(tactic| (k_here; (with_reducible show wpAny _ _ (assign (Expr.Tuple _ _ _) _ (Value.ref _)) _ _ _); k_dflt (refine' Mine.assign_calm ?kA ?kC ?k1 ?k2 ?k3 ?k5 ?k6 ?_; (case kA => exact rfl); (case k1 => k_asm); (case k2 => k_asm); (case kC => first | exact Mine.CalmN.at (by assumption) (by k_asm) (by first | exact fun _ h => h | exact fun _ h => .tail _ h | exact fun _ h => .tail _ (.tail _ h) | exact fun _ h => .tail _ (.tail _ (.tail _ h)) | exact fun _ h => .tail _ (.tail _ (.tail _ (.tail _ h))) | exact fun _ h => .tail _ (.tail _ (.tail _ (.tail _ (.tail _ h)))) | exact fun _ h => .tail _ (.tail _ (.tail _ (.tail _ (.tail _ (.tail _ h))))) | exact fun _ h => .tail _ (.tail _ (.tail _ (.tail _ (.tail _ (.tail _ (.tail _ h)))))) | exact fun _ h => .tail _ (.tail _ (.tail _ (.tail _ (.tail _ (.tail _ (.tail _ (.tail _ h))))))) | exact fun _ h => .tail _ (.tail _ (.tail _ (.tail _ (.tail _ (.tail _ (.tail _ (.tail _ (.tail _ h)))))))) | exact fun _ h => .tail _ (.tail _ (.tail _ (.tail _ (.tail _ (.tail _ (.tail _ (.tail _ (.tail _ (.tail _ h))))))))) | exact fun _ h => .tail _ (.tail _ (.tail _ (.tail _ (.tail _ (.tail _ (.tail _ (.tail _ (.tail _ (.tail _ (.tail _ h)))))))))) | exact fun _ h => .tail _ (.tail _ (.tail _ (.tail _ (.tail _ (.tail _ (.tail _ (.tail _ (.tail _ (.tail _ (.tail _ (.tail _ h))))))))))) | exact fun _ h => .tail _ (.tail _ (.tail _ (.tail _ (.tail _ (.tail _ (.tail _ (.tail _ (.tail _ (.tail _ (.tail _ (.tail _ (.tail _ h)))))))))))) | exact fun _ h => .tail _ (.tail _ (.tail _ (.tail _ (.tail _ (.tail _ (.tail _ (.tail _ (.tail _ (.tail _ (.tail _ (.tail _ (.tail _ (.tail _ h))))))))))))) | exact fun _ h => .tail _ (.tail _ (.tail _ (.tail _ (.tail _ (.tail _ (.tail _ (.tail _ (.tail _ (.tail _ (.tail _ (.tail _ (.tail _ (.tail _ (.tail _ h))))))))))))))) | exact Or.inl rfl); (case k3 => kun_tup); (case k5 => exact rfl); (case k6 => exact rfl); k_whole); intro h' F' N'; (try k_sweep)))
local macro_rules | `(tactic| walk_at "call builtin:min") => `(tactic| (k_here; (with_reducible show wpAny _ _ (call (Value.builtin _) [Value.int _ _, Value.int _ _]) _ _ _); k_dflt (refine' Mine.min_calm ?kA ?kC ?k1 ?k2 ?_; (case kA => exact rfl); (case k1 => k_asm); (case k2 => k_asm); (case kC => first | exact Mine.CalmN.at (by assumption) (by k_asm) (by first | exact fun _ h => h | exact fun _ h => .tail _ h | exact fun _ h => .tail _ (.tail _ h) | exact fun _ h => .tail _ (.tail _ (.tail _ h)) | exact fun _ h => .tail _ (.tail _ (.tail _ (.tail _ h))) | exact fun _ h => .tail _ (.tail _ (.tail _ (.tail _ (.tail _ h)))) | exact fun _ h => .tail _ (.tail _ (.tail _ (.tail _ (.tail _ (.tail _ h))))) | exact fun _ h => .tail _ (.tail _ (.tail _ (.tail _ (.tail _ (.tail _ (.tail _ h)))))) | exact fun _ h => .tail _ (.tail _ (.tail _ (.tail _ (.tail _ (.tail _ (.tail _ (.tail _ h))))))) | exact fun _ h => .tail _ (.tail _ (.tail _ (.tail _ (.tail _ (.tail _ (.tail _ (.tail _ (.tail _ h)))))))) | exact fun _ h => .tail _ (.tail _ (.tail _ (.tail _ (.tail _ (.tail _ (.tail _ (.tail _ (.tail _ (.tail _ h))))))))) | exact fun _ h => .tail _ (.tail _ (.tail _ (.tail _ (.tail _ (.tail _ (.tail _ (.tail _ (.tail _ (.tail _ (.tail _ h)))))))))) | exact fun _ h => .tail _ (.tail _ (.tail _ (.tail _ (.tail _ (.tail _ (.tail _ (.tail _ (.tail _ (.tail _ (.tail _ (.tail _ h))))))))))) | exact fun _ h => .tail _ (.tail _ (.tail _ (.tail _ (.tail _ (.tail _ (.tail _ (.tail _ (.tail _ (.tail _ (.tail _ (.tail _ (.tail _ h)))))))))))) | exact fun _ h => .tail _ (.tail _ (.tail _ (.tail _ (.tail _ (.tail _ (.tail _ (.tail _ (.tail _ (.tail _ (.tail _ (.tail _ (.tail _ (.tail _ h))))))))))))) | exact fun _ h => .tail _ (.tail _ (.tail _ (.tail _ (.tail _ (.tail _ (.tail _ (.tail _ (.tail _ (.tail _ (.tail _ (.tail _ (.tail _ (.tail _ (.tail _ h))))))))))))))) | exact Or.inl rfl); k_whole); intro h9 tk9 F9 N9; (try dsimp only)))
local macro_rules | `(tactic| walk_at "call builtin:max") => `(tactic| (k_here; (with_reducible show wpAny _ _ (call (Value.builtin _) [Value.int _ _, Value.int _ _]) _ _ _); k_dflt (refine' Mine.max_wc ?kA ?kC ?k1 ?k2 ?_; (case kA => exact rfl); (case k1 => k_asm); (case k2 => k_asm); (case kC => first | exact Mine.CalmN.at (by assumption) (by k_asm) (by first | exact fun _ h => h | exact fun _ h => .tail _ h | exact fun _ h => .tail _ (.tail _ h) | exact fun _ h => .tail _ (.tail _ (.tail _ h)) | exact fun _ h => .tail _ (.tail _ (.tail _ (.tail _ h))) | exact fun _ h => .tail _ (.tail _ (.tail _ (.tail _ (.tail _ h)))) | exact fun _ h => .tail _ (.tail _ (.tail _ (.tail _ (.tail _ (.tail _ h))))) | exact fun _ h => .tail _ (.tail _ (.tail _ (.tail _ (.tail _ (.tail _ (.tail _ h)))))) | exact fun _ h => .tail _ (.tail _ (.tail _ (.tail _ (.tail _ (.tail _ (.tail _ (.tail _ h))))))) | exact fun _ h => .tail _ (.tail _ (.tail _ (.tail _ (.tail _ (.tail _ (.tail _ (.tail _ (.tail _ h)))))))) | exact fun _ h => .tail _ (.tail _ (.tail _ (.tail _ (.tail _ (.tail _ (.tail _ (.tail _ (.tail _ (.tail _ h))))))))) | exact fun _ h => .tail _ (.tail _ (.tail _ (.tail _ (.tail _ (.tail _ (.tail _ (.tail _ (.tail _ (.tail _ (.tail _ h)))))))))) | exact fun _ h => .tail _ (.tail _ (.tail _ (.tail _ (.tail _ (.tail _ (.tail _ (.tail _ (.tail _ (.tail _ (.tail _ (.tail _ h))))))))))) | exact fun _ h => .tail _ (.tail _ (.tail _ (.tail _ (.tail _ (.tail _ (.tail _ (.tail _ (.tail _ (.tail _ (.tail _ (.tail _ (.tail _ h)))))))))))) | exact fun _ h => .tail _ (.tail _ (.tail _ (.tail _ (.tail _ (.tail _ (.tail _ (.tail _ (.tail _ (.tail _ (.tail _ (.tail _ (.tail _ (.tail _ h))))))))))))) | exact fun _ h => .tail _ (.tail _ (.tail _ (.tail _ (.tail _ (.tail _ (.tail _ (.tail _ (.tail _ (.tail _ (.tail _ (.tail _ (.tail _ (.tail _ (.tail _ h))))))))))))))) | exact Or.inl rfl); k_whole); intro v9 h9 tk9 F9 N9; (try dsimp only)))
local macro_rules | `(tactic| walk_at "exec Assert") => `(tactic| (refine Mine.assert_holds ?_))

local macro_rules | `(tactic| walk_at "call ref") => `(tactic| (k_here; (with_reducible show wpAny _ _ (call (Value.ref 78) _) _ _ _); k_dflt (refine' Mine.Ctr.use (Mine.c_normalize _ _ _ _ _ _ _ _ _ _ _ _ ?_ ?_ ?_) ?k1 ?k2 ?k3 ?k4 ?k5 ?k6 ?k7 ?k8 ?k9 ?_; (case k1 => k_asm); (case k2 => k_asm); (case k3 => k_asm); (case k4 => k_asm); (case k5 => k_asm); (case k9 => first | assumption | exact Mine.CalmN.sub (by assumption) (by first | exact fun _ h => h | exact fun _ h => .tail _ h | exact fun _ h => .tail _ (.tail _ h) | exact fun _ h => .tail _ (.tail _ (.tail _ h)) | exact fun _ h => .tail _ (.tail _ (.tail _ (.tail _ h))) | exact fun _ h => .tail _ (.tail _ (.tail _ (.tail _ (.tail _ h)))) | exact fun _ h => .tail _ (.tail _ (.tail _ (.tail _ (.tail _ (.tail _ h))))) | exact fun _ h => .tail _ (.tail _ (.tail _ (.tail _ (.tail _ (.tail _ (.tail _ h)))))) | exact fun _ h => .tail _ (.tail _ (.tail _ (.tail _ (.tail _ (.tail _ (.tail _ (.tail _ h))))))) | exact fun _ h => .tail _ (.tail _ (.tail _ (.tail _ (.tail _ (.tail _ (.tail _ (.tail _ (.tail _ h)))))))) | exact fun _ h => .tail _ (.tail _ (.tail _ (.tail _ (.tail _ (.tail _ (.tail _ (.tail _ (.tail _ (.tail _ h))))))))) | exact fun _ h => .tail _ (.tail _ (.tail _ (.tail _ (.tail _ (.tail _ (.tail _ (.tail _ (.tail _ (.tail _ (.tail _ h)))))))))) | exact fun _ h => .tail _ (.tail _ (.tail _ (.tail _ (.tail _ (.tail _ (.tail _ (.tail _ (.tail _ (.tail _ (.tail _ (.tail _ h))))))))))) | exact fun _ h => .tail _ (.tail _ (.tail _ (.tail _ (.tail _ (.tail _ (.tail _ (.tail _ (.tail _ (.tail _ (.tail _ (.tail _ (.tail _ h)))))))))))) | exact fun _ h => .tail _ (.tail _ (.tail _ (.tail _ (.tail _ (.tail _ (.tail _ (.tail _ (.tail _ (.tail _ (.tail _ (.tail _ (.tail _ (.tail _ h))))))))))))) | exact fun _ h => .tail _ (.tail _ (.tail _ (.tail _ (.tail _ (.tail _ (.tail _ (.tail _ (.tail _ (.tail _ (.tail _ (.tail _ (.tail _ (.tail _ (.tail _ h))))))))))))))) | exact Or.inl rfl); (case k6 => first | exact rfl | assumption); (case k7 => first | ((try dsimp only [Mine.ktrX]); (try simp only [depth_under_make, depth_under_kw, depth_in1, depth_deeper, depth_caller]); (try dsimp only [Mine.ktrX]); omega) | ((try dsimp only [Mine.ktrX] at *); ktr_room)); (case k8 => first | ((try dsimp only [Mine.ktrX]); (try simp only [units_in1, units_deeper, Around.mark_units, units_caller]); (try dsimp only [Mine.ktrX]); omega) | ((try dsimp only [Mine.ktrX] at *); ktr_units)); (first | assumption | k_mem | omega | rotate_left); (first | assumption | k_mem | omega | rotate_left); (first | assumption | k_mem | omega | rotate_left)); intro D9 t9 u9 v9 x9 h9 tk9 F9 N9; (try dsimp only); (try k_fold)))
local macro_rules | `(tactic| walk_at "call ref") => `(tactic| (k_here; (with_reducible show wpAny _ _ (call (Value.ref 78) _) _ _ _); k_dflt (refine' Mine.Ctr.use (Mine.c_normalize_d _ _ _ _ _ _ _ _ _ _ _ ?_ ?_ ?_) ?k1 ?k2 ?k3 ?k4 ?k5 ?k6 ?k7 ?k8 ?k9 ?_; (case k1 => k_asm); (case k2 => k_asm); (case k3 => k_asm); (case k4 => k_asm); (case k5 => k_asm); (case k9 => first | assumption | exact Mine.CalmN.sub (by assumption) (by first | exact fun _ h => h | exact fun _ h => .tail _ h | exact fun _ h => .tail _ (.tail _ h) | exact fun _ h => .tail _ (.tail _ (.tail _ h)) | exact fun _ h => .tail _ (.tail _ (.tail _ (.tail _ h))) | exact fun _ h => .tail _ (.tail _ (.tail _ (.tail _ (.tail _ h)))) | exact fun _ h => .tail _ (.tail _ (.tail _ (.tail _ (.tail _ (.tail _ h))))) | exact fun _ h => .tail _ (.tail _ (.tail _ (.tail _ (.tail _ (.tail _ (.tail _ h)))))) | exact fun _ h => .tail _ (.tail _ (.tail _ (.tail _ (.tail _ (.tail _ (.tail _ (.tail _ h))))))) | exact fun _ h => .tail _ (.tail _ (.tail _ (.tail _ (.tail _ (.tail _ (.tail _ (.tail _ (.tail _ h)))))))) | exact fun _ h => .tail _ (.tail _ (.tail _ (.tail _ (.tail _ (.tail _ (.tail _ (.tail _ (.tail _ (.tail _ h))))))))) | exact fun _ h => .tail _ (.tail _ (.tail _ (.tail _ (.tail _ (.tail _ (.tail _ (.tail _ (.tail _ (.tail _ (.tail _ h)))))))))) | exact fun _ h => .tail _ (.tail _ (.tail _ (.tail _ (.tail _ (.tail _ (.tail _ (.tail _ (.tail _ (.tail _ (.tail _ (.tail _ h))))))))))) | exact fun _ h => .tail _ (.tail _ (.tail _ (.tail _ (.tail _ (.tail _ (.tail _ (.tail _ (.tail _ (.tail _ (.tail _ (.tail _ (.tail _ h)))))))))))) | exact fun _ h => .tail _ (.tail _ (.tail _ (.tail _ (.tail _ (.tail _ (.tail _ (.tail _ (.tail _ (.tail _ (.tail _ (.tail _ (.tail _ (.tail _ h))))))))))))) | exact fun _ h => .tail _ (.tail _ (.tail _ (.tail _ (.tail _ (.tail _ (.tail _ (.tail _ (.tail _ (.tail _ (.tail _ (.tail _ (.tail _ (.tail _ (.tail _ h))))))))))))))) | exact Or.inl rfl); (case k6 => first | exact rfl | assumption); (case k7 => first | ((try dsimp only [Mine.ktrX]); (try simp only [depth_under_make, depth_under_kw, depth_in1, depth_deeper, depth_caller]); (try dsimp only [Mine.ktrX]); omega) | ((try dsimp only [Mine.ktrX] at *); ktr_room)); (case k8 => first | ((try dsimp only [Mine.ktrX]); (try simp only [units_in1, units_deeper, Around.mark_units, units_caller]); (try dsimp only [Mine.ktrX]); omega) | ((try dsimp only [Mine.ktrX] at *); ktr_units)); (first | assumption | k_mem | omega | rotate_left); (first | assumption | k_mem | omega | rotate_left); (first | assumption | k_mem | omega | rotate_left)); intro D9 t9 u9 v9 x9 h9 tk9 F9 N9; (try dsimp only); (try k_fold)))
local macro_rules | `(tactic| walk_at "call ref") => `(tactic| (k_here; (with_reducible show wpAny _ _ (call (Value.ref 78) _) _ _ _); k_dflt (refine' Mine.Ctr.use (Mine.c_normalize0 _ _ _ _ _ _ _ _ _ _ ) ?k1 ?k2 ?k3 ?k4 ?k5 ?k6 ?k7 ?k8 ?k9 ?_; (case k1 => k_asm); (case k2 => k_asm); (case k3 => k_asm); (case k4 => k_asm); (case k5 => k_asm); (case k9 => first | assumption | exact Mine.CalmN.sub (by assumption) (by first | exact fun _ h => h | exact fun _ h => .tail _ h | exact fun _ h => .tail _ (.tail _ h) | exact fun _ h => .tail _ (.tail _ (.tail _ h)) | exact fun _ h => .tail _ (.tail _ (.tail _ (.tail _ h))) | exact fun _ h => .tail _ (.tail _ (.tail _ (.tail _ (.tail _ h)))) | exact fun _ h => .tail _ (.tail _ (.tail _ (.tail _ (.tail _ (.tail _ h))))) | exact fun _ h => .tail _ (.tail _ (.tail _ (.tail _ (.tail _ (.tail _ (.tail _ h)))))) | exact fun _ h => .tail _ (.tail _ (.tail _ (.tail _ (.tail _ (.tail _ (.tail _ (.tail _ h))))))) | exact fun _ h => .tail _ (.tail _ (.tail _ (.tail _ (.tail _ (.tail _ (.tail _ (.tail _ (.tail _ h)))))))) | exact fun _ h => .tail _ (.tail _ (.tail _ (.tail _ (.tail _ (.tail _ (.tail _ (.tail _ (.tail _ (.tail _ h))))))))) | exact fun _ h => .tail _ (.tail _ (.tail _ (.tail _ (.tail _ (.tail _ (.tail _ (.tail _ (.tail _ (.tail _ (.tail _ h)))))))))) | exact fun _ h => .tail _ (.tail _ (.tail _ (.tail _ (.tail _ (.tail _ (.tail _ (.tail _ (.tail _ (.tail _ (.tail _ (.tail _ h))))))))))) | exact fun _ h => .tail _ (.tail _ (.tail _ (.tail _ (.tail _ (.tail _ (.tail _ (.tail _ (.tail _ (.tail _ (.tail _ (.tail _ (.tail _ h)))))))))))) | exact fun _ h => .tail _ (.tail _ (.tail _ (.tail _ (.tail _ (.tail _ (.tail _ (.tail _ (.tail _ (.tail _ (.tail _ (.tail _ (.tail _ (.tail _ h))))))))))))) | exact fun _ h => .tail _ (.tail _ (.tail _ (.tail _ (.tail _ (.tail _ (.tail _ (.tail _ (.tail _ (.tail _ (.tail _ (.tail _ (.tail _ (.tail _ (.tail _ h))))))))))))))) | exact Or.inl rfl); (case k6 => first | exact rfl | assumption); (case k7 => first | ((try dsimp only [Mine.ktrX]); (try simp only [depth_under_make, depth_under_kw, depth_in1, depth_deeper, depth_caller]); (try dsimp only [Mine.ktrX]); omega) | ((try dsimp only [Mine.ktrX] at *); ktr_room)); (case k8 => first | ((try dsimp only [Mine.ktrX]); (try simp only [units_in1, units_deeper, Around.mark_units, units_caller]); (try dsimp only [Mine.ktrX]); omega) | ((try dsimp only [Mine.ktrX] at *); ktr_units))); intro h9 tk9 F9 N9; (try dsimp only); (try k_fold)))

namespace Mine
open PySem.Builtin.Int (intBits)
set_option maxRecDepth 100000 in
set_option maxHeartbeats 8000000 in
theorem c_fme4 (wy : Way) (w : World) (news : List (Addr × Obj)) (n e prec : Int) (t u y z : Tok) (hn : 0 < n) (hp : 1 ≤ prec) (hb : (intBits n : Int) ≤ 100000) :
    Ctr w 86 4 news [.int n t, .int e u, .int prec y, .str wy.str z] (RetT4 news 0 (rn wy n e prec).1 (rn wy n e prec).2.1 (rn wy n e prec).2.2) := by
  w_top off
  dsimp only [Ctr, RetI, RetT2, RetT4, RetB, RetZ]
  k_fill
  intro pp loose mean mg mb dp un gd cn cs a ccd cl outer A₀ base h₀ L m s hxx Q E B F X N T hk hdp hu hcalm hret
  refine wpAny_call ?_
  k_dflt (refine' code_def ?k1 ?k2 ?k3 ?k4 ?k5 ?kA ?kF ?kK ?k6 ?k7 ?k8 ?k9 ?kB ?_ ?c2 ?c3 ?c4 ?c5; (case kA => exact rfl); (case kF => exact rfl); (case kK => assumption); (case k1 => k_asm); (case k2 => k_asm); (case k3 => k_asm); (case k4 => k_asm); (case k5 => k_asm); (case k6 => k_is); (case k7 => k_is); (case k8 => first | ((try dsimp only [Mine.ktrX]); (try simp only [depth_under_make, depth_under_kw, depth_in1, depth_deeper, depth_caller]); (try dsimp only [Mine.ktrX]); omega) | ((try dsimp only [Mine.ktrX] at *); ktr_room)); (case k9 => first | exact BindsTo.of_eq rfl | exact binds_K (by k_in) rfl (by k_is) rfl rfl rfl); (case c5 => decide); (case kB => exact locs rfl); (case c2 => exact rfl); (case c3 => exact rfl); (case c4 => exact rfl); k_whole; intro g' L' h' FG' F' N' B' X' T'; (try dsimp only); (try k_lift B'); (try k_fold))
  k_with_none
  repeat' (first | (k_unfold; (try dsimp only)) | walk1 | (dsimp only; walk1) | (leave1; try dsimp only) | fail "no step")
  all_goals first
    | (rename Fr _ _ _ _ => lF; rename News _ _ _ _ => lN; exact retT4_end hret rfl rfl rfl rfl lF lN (by k_mem) (by first | exact fun _ h => .tail _ h | exact fun _ h => h | exact fun _ h => .tail _ (.tail _ h) | exact fun _ h => .tail _ (.tail _ (.tail _ h)) | exact fun _ h => .tail _ (.tail _ (.tail _ (.tail _ h))) | exact fun _ h => .tail _ (.tail _ (.tail _ (.tail _ (.tail _ h))))))
    | (exfalso; omega)
set_option maxRecDepth 100000 in
set_option maxHeartbeats 8000000 in
theorem c_abs (wy : Way) (w : World) (news : List (Addr × Obj)) (D : Addr) (g man exp prec : Int) (t u v x y z : Tok) (hD : (D, o4 g man exp (intBits man) t u v x) ∈ news) (hm : 0 < man) (hp : 1 ≤ prec) (hb : (intBits man : Int) ≤ 100000) :
    Ctr w 102 4 news [.ref D, .int prec y, .str wy.str z] (RetT4 news 0 (rn wy man exp prec).1 (rn wy man exp prec).2.1 (rn wy man exp prec).2.2) := by
  w_top off
  dsimp only [Ctr, RetI, RetT2, RetT4, RetB, RetZ]
  k_fill
  intro pp loose mean mg mb dp un gd cn cs a ccd cl outer A₀ base h₀ L m s hxx Q E B F X N T hk hdp hu hcalm hret
  refine wpAny_call ?_
  k_dflt (refine' code_def ?k1 ?k2 ?k3 ?k4 ?k5 ?kA ?kF ?kK ?k6 ?k7 ?k8 ?k9 ?kB ?_ ?c2 ?c3 ?c4 ?c5; (case kA => exact rfl); (case kF => exact rfl); (case kK => assumption); (case k1 => k_asm); (case k2 => k_asm); (case k3 => k_asm); (case k4 => k_asm); (case k5 => k_asm); (case k6 => k_is); (case k7 => k_is); (case k8 => first | ((try dsimp only [Mine.ktrX]); (try simp only [depth_under_make, depth_under_kw, depth_in1, depth_deeper, depth_caller]); (try dsimp only [Mine.ktrX]); omega) | ((try dsimp only [Mine.ktrX] at *); ktr_room)); (case k9 => first | exact BindsTo.of_eq rfl | exact binds_K (by k_in) rfl (by k_is) rfl rfl rfl); (case c5 => decide); (case kB => exact locs rfl); (case c2 => exact rfl); (case c3 => exact rfl); (case c4 => exact rfl); k_whole; intro g' L' h' FG' F' N' B' X' T'; (try dsimp only); (try k_lift B'); (try k_fold))
  k_with_none
  repeat' (first | (k_unfold; (try dsimp only)) | walk1 | (dsimp only; walk1) | (leave1; try dsimp only) | fail "no step")
  all_goals first
    | (rename Fr _ _ _ _ => lF; rename News _ _ _ _ => lN; exact retT4_end hret rfl rfl rfl rfl lF lN (by k_mem) (by first | exact fun _ h => .tail _ h | exact fun _ h => h | exact fun _ h => .tail _ (.tail _ h) | exact fun _ h => .tail _ (.tail _ (.tail _ h)) | exact fun _ h => .tail _ (.tail _ (.tail _ (.tail _ h))) | exact fun _ h => .tail _ (.tail _ (.tail _ (.tail _ (.tail _ h))))))
    | (exfalso; omega)
set_option maxRecDepth 100000 in
set_option maxHeartbeats 8000000 in
theorem c_abs0 (wy : Way) (w : World) (news : List (Addr × Obj)) (prec : Int) (y z : Tok) (hp : 1 ≤ prec) :
    Ctr w 102 4 news [.ref 56, .int prec y, .str wy.str z] (RetZ news) := by
  w_top off
  dsimp only [Ctr, RetI, RetT2, RetT4, RetB, RetZ]
  k_fill
  intro pp loose mean mg mb dp un gd cn cs a ccd cl outer A₀ base h₀ L m s hxx Q E B F X N T hk hdp hu hcalm hret
  refine wpAny_call ?_
  k_dflt (refine' code_def ?k1 ?k2 ?k3 ?k4 ?k5 ?kA ?kF ?kK ?k6 ?k7 ?k8 ?k9 ?kB ?_ ?c2 ?c3 ?c4 ?c5; (case kA => exact rfl); (case kF => exact rfl); (case kK => assumption); (case k1 => k_asm); (case k2 => k_asm); (case k3 => k_asm); (case k4 => k_asm); (case k5 => k_asm); (case k6 => k_is); (case k7 => k_is); (case k8 => first | ((try dsimp only [Mine.ktrX]); (try simp only [depth_under_make, depth_under_kw, depth_in1, depth_deeper, depth_caller]); (try dsimp only [Mine.ktrX]); omega) | ((try dsimp only [Mine.ktrX] at *); ktr_room)); (case k9 => first | exact BindsTo.of_eq rfl | exact binds_K (by k_in) rfl (by k_is) rfl rfl rfl); (case c5 => decide); (case kB => exact locs rfl); (case c2 => exact rfl); (case c3 => exact rfl); (case c4 => exact rfl); k_whole; intro g' L' h' FG' F' N' B' X' T'; (try dsimp only); (try k_lift B'); (try k_fold))
  k_with_none
  repeat' (first | (k_unfold; (try dsimp only)) | walk1 | (dsimp only; walk1) | (leave1; try dsimp only) | fail "no step")
  all_goals first
    | exact retZ_end hret (by k_asm) (by k_asm) (by first | exact fun _ h => .tail _ h | exact fun _ h => h | exact fun _ h => .tail _ (.tail _ h) | exact fun _ h => .tail _ (.tail _ (.tail _ h)) | exact fun _ h => .tail _ (.tail _ (.tail _ (.tail _ h))) | exact fun _ h => .tail _ (.tail _ (.tail _ (.tail _ (.tail _ h)))))
    | (exfalso; omega)
end Mine

end
section
local macro_rules | `(tactic| walk_at "none 0") => `(tactic| fail)
local macro_rules | `(tactic| walk_at "none 1") => `(tactic| fail)
local macro_rules | `(tactic| walk_at "none 2") => `(tactic| fail)
local macro_rules | `(tactic| walk_at "none 3") => `(tactic| fail)
local macro_rules | `(tactic| walk_at "none 4") => `(tactic| fail)
local macro_rules | `(tactic| walk_at "none 5") => `(tactic| fail)
local macro_rules | `(tactic| walk_at "none 6") => `(tactic| fail)
local macro_rules | `(tactic| walk_at "none 7") => `(tactic| fail)
local macro_rules | `(tactic| walk_at "none 8") => `(tactic| fail)
local macro_rules | `(tactic| walk_at "none 9") => `(tactic| fail)
local macro_rules | `(tactic| walk_at "none 10") => `(tactic| fail)
local macro_rules | `(tactic| walk_at "binaryOp LShift int int") => `(tactic| (refine PyProof.Rows.lshift_int ?_ ?_ ?_; rotate_left 2))
local macro_rules | `(tactic| walk_at "binaryOp FloorDiv int int") => `(tactic| (refine PyProof.Rows.floordiv_int (Mine.ninv_pos (by assumption)) ?_ (Or.inl (PyProof.noPylong_of_log2 (Mine.ninv_log (by assumption))))))
local macro_rules | `(tactic| walk_at "binaryOp Mult int int") => `(tactic| (refine PyProof.Rows.mul_int ?_ ?_; (try dsimp only)))
local macro_rules | `(tactic| walk_at "binaryOp Pow int int") => `(tactic| (refine PyProof.Rows.pow_int ?_ ?_ ?_; rotate_left 2; (try dsimp only)))
local macro_rules | `(tactic| walk_at "execs cons") => `(tactic| (with_reducible (refine Mine.gen_toks ?_; intro tk; refine wpAny_execs_cons ?_); (try dsimp only)))
local macro_rules | `(tactic| walk_at "execs nil") => `(tactic| (with_reducible (refine Mine.gen_toks ?_; intro tk; refine wpAny_execs_nil ?_); (try dsimp only)))
local macro_rules | `(tactic| walk_at "unpackItems ref") => `(tactic| (k_here; k_dflt (refine' Mine.unpack_calm ?kA ?kC ?k1 ?k2 ?k3 ?k5 ?_; (case kA => exact rfl); (case k1 => k_asm); (case k2 => k_asm); (case kC => first | exact Mine.CalmN.at (by assumption) (by k_asm) (by first | exact fun _ h => h | exact fun _ h => .tail _ h | exact fun _ h => .tail _ (.tail _ h) | exact fun _ h => .tail _ (.tail _ (.tail _ h)) | exact fun _ h => .tail _ (.tail _ (.tail _ (.tail _ h))) | exact fun _ h => .tail _ (.tail _ (.tail _ (.tail _ (.tail _ h)))) | exact fun _ h => .tail _ (.tail _ (.tail _ (.tail _ (.tail _ (.tail _ h))))) | exact fun _ h => .tail _ (.tail _ (.tail _ (.tail _ (.tail _ (.tail _ (.tail _ h)))))) | exact fun _ h => .tail _ (.tail _ (.tail _ (.tail _ (.tail _ (.tail _ (.tail _ (.tail _ h))))))) | exact fun _ h => .tail _ (.tail _ (.tail _ (.tail _ (.tail _ (.tail _ (.tail _ (.tail _ (.tail _ h)))))))) | exact fun _ h => .tail _ (.tail _ (.tail _ (.tail _ (.tail _ (.tail _ (.tail _ (.tail _ (.tail _ (.tail _ h))))))))) | exact fun _ h => .tail _ (.tail _ (.tail _ (.tail _ (.tail _ (.tail _ (.tail _ (.tail _ (.tail _ (.tail _ (.tail _ h)))))))))) | exact fun _ h => .tail _ (.tail _ (.tail _ (.tail _ (.tail _ (.tail _ (.tail _ (.tail _ (.tail _ (.tail _ (.tail _ (.tail _ h))))))))))) | exact fun _ h => .tail _ (.tail _ (.tail _ (.tail _ (.tail _ (.tail _ (.tail _ (.tail _ (.tail _ (.tail _ (.tail _ (.tail _ (.tail _ h)))))))))))) | exact fun _ h => .tail _ (.tail _ (.tail _ (.tail _ (.tail _ (.tail _ (.tail _ (.tail _ (.tail _ (.tail _ (.tail _ (.tail _ (.tail _ (.tail _ h))))))))))))) | exact fun _ h => .tail _ (.tail _ (.tail _ (.tail _ (.tail _ (.tail _ (.tail _ (.tail _ (.tail _ (.tail _ (.tail _ (.tail _ (.tail _ (.tail _ (.tail _ h))))))))))))))) | exact Or.inl rfl); (case k3 => kun_tup); (case k5 => exact rfl); k_whole); intro h' F' N'; (try k_sweep)))
local macro_rules | `(tactic| walk_at "assign Tuple") => `(tactic| (k_here; (with_reducible show wpAny _ _ (assign (Expr.Tuple _ _ _) _ (Value.ref _)) _ _ _); k_dflt (refine' Mine.assign_calm ?kA ?kC ?k1 ?k2 ?k3 ?k5 ?k6 ?_; (case kA => exact rfl); (case k1 => k_asm); (case k2 => k_asm); (case kC => first | exact Mine.CalmN.at (by assumption) (by k_asm) (by first | exact fun _ h => h | exact fun _ h => .tail _ h | exact fun _ h => .tail _ (.tail _ h) | exact fun _ h => .tail _ (.tail _ (.tail _ h)) | exact fun _ h => .tail _ (.tail _ (.tail _ (.tail _ h))) | exact fun _ h => .tail _ (.tail _ (.tail _ (.tail _ (.tail _ h)))) | exact fun _ h => .tail _ (.tail _ (.tail _ (.tail _ (.tail _ (.tail _ h))))) | exact fun _ h => .tail _ (.tail _ (.tail _ (.tail _ (.tail _ (.tail _ (.tail _ h)))))) | exact fun _ h => .tail _ (.tail _ (.tail _ (.tail _ (.tail _ (.tail _ (.tail _ (.tail _ h))))))) | exact fun _ h => .tail _ (.tail _ (.tail _ (.tail _ (.tail _ (.tail _ (.tail _ (.tail _ (.tail _ h)))))))) | exact fun _ h => .tail _ (.tail _ (.tail _ (.tail _ (.tail _ (.tail _ (.tail _ (.tail _ (.tail _ (.tail _ h))))))))) | exact fun _ h => .tail _ (.tail _ (.tail _ (.tail _ (.tail _ (.tail _ (.tail _ (.tail _ (.tail _ (.tail _ (.tail _ h)))))))))) | exact fun _ h => .tail _ (.tail _ (.tail _ (.tail _ (.tail _ (.tail _ (.tail _ (.tail _ (.tail _ (.tail _ (.tail _ (.tail _ h))))))))))) | exact fun _ h => .tail _ (.tail _ (.tail _ (.tail _ (.tail _ (.tail _ (.tail _ (.tail _ (.tail _ (.tail _ (.tail _ (.tail _ (.tail _ h)))))))))))) | exact fun _ h => .tail _ (.tail _ (.tail _ (.tail _ (.tail _ (.tail _ (.tail _ (.tail _ (.tail _ (.tail _ (.tail _ (.tail _ (.tail _ (.tail _ h))))))))))))) | exact fun _ h => .tail _ (.tail _ (.tail _ (.tail _ (.tail _ (.tail _ (.tail _ (.tail _ (.tail _ (.tail _ (.tail _ (.tail _ (.tail _ (.tail _ (.tail _ h))))))))))))))) | exact Or.inl rfl); (case k3 => kun_tup); (case k5 => exact rfl); (case k6 => exact rfl); k_whole); intro h' F' N'; (try k_sweep)))
local macro_rules | `(tactic| walk_at "call builtin:min") => `(tactic| (k_here; (with_reducible show wpAny _ _ (call (Value.builtin _) [Value.int _ _, Value.int _ _]) _ _ _); k_dflt (refine' Mine.min_calm ?kA ?kC ?k1 ?k2 ?_; (case kA => exact rfl); (case k1 => k_asm); (case k2 => k_asm); (case kC => first | exact Mine.CalmN.at (by assumption) (by k_asm) (by first | exact fun _ h => h | exact fun _ h => .tail _ h | exact fun _ h => .tail _ (.tail _ h) | exact fun _ h => .tail _ (.tail _ (.tail _ h)) | exact fun _ h => .tail _ (.tail _ (.tail _ (.tail _ h))) | exact fun _ h => .tail _ (.tail _ (.tail _ (.tail _ (.tail _ h)))) | exact fun _ h => .tail _ (.tail _ (.tail _ (.tail _ (.tail _ (.tail _ h))))) | exact fun _ h => .tail _ (.tail _ (.tail _ (.tail _ (.tail _ (.tail _ (.tail _ h)))))) | exact fun _ h => .tail _ (.tail _ (.tail _ (.tail _ (.tail _ (.tail _ (.tail _ (.tail _ h))))))) | exact fun _ h => .tail _ (.tail _ (.tail _ (.tail _ (.tail _ (.tail _ (.tail _ (.tail _ (.tail _ h)))))))) | exact fun _ h => .tail _ (.tail _ (.tail _ (.tail _ (.tail _ (.tail _ (.tail _ (.tail _ (.tail _ (.tail _ h))))))))) | exact fun _ h => .tail _ (.tail _ (.tail _ (.tail _ (.tail _ (.tail _ (.tail _ (.tail _ (.tail _ (.tail _ (.tail _ h)))))))))) | exact fun _ h => .tail _ (.tail _ (.tail _ (.tail _ (.tail _ (.tail _ (.tail _ (.tail _ (.tail _ (.tail _ (.tail _ (.tail _ h))))))))))) | exact fun _ h => .tail _ (.tail _ (.tail _ (.tail _ (.tail _ (.tail _ (.tail _ (.tail _ (.tail _ (.tail _ (.tail _ (.tail _ (.tail _ h)))))))))))) | exact fun _ h => .tail _ (.tail _ (.tail _ (.tail _ (.tail _ (.tail _ (.tail _ (.tail _ (.tail _ (.tail _ (.tail _ (.tail _ (.tail _ (.tail _ h))))))))))))) | exact fun _ h => .tail _ (.tail _ (.tail _ (.tail _ (.tail _ (.tail _ (.tail _ (.tail _ (.tail _ (.tail _ (.tail _ (.tail _ (.tail _ (.tail _ (.tail _ h))))))))))))))) | exact Or.inl rfl); k_whole); intro h9 tk9 F9 N9; (try dsimp only)))
local macro_rules | `(tactic| walk_at "call builtin:max") => `(tactic| (k_here; (with_reducible show wpAny _ _ (call (Value.builtin _) [Value.int _ _, Value.int _ _]) _ _ _); k_dflt (refine' Mine.max_wc ?kA ?kC ?k1 ?k2 ?_; (case kA => exact rfl); (case k1 => k_asm); (case k2 => k_asm); (case kC => first | exact Mine.CalmN.at (by assumption) (by k_asm) (by first | exact fun _ h => h | exact fun _ h => .tail _ h | exact fun _ h => .tail _ (.tail _ h) | exact fun _ h => .tail _ (.tail _ (.tail _ h)) | exact fun _ h => .tail _ (.tail _ (.tail _ (.tail _ h))) | exact fun _ h => .tail _ (.tail _ (.tail _ (.tail _ (.tail _ h)))) | exact fun _ h => .tail _ (.tail _ (.tail _ (.tail _ (.tail _ (.tail _ h))))) | exact fun _ h => .tail _ (.tail _ (.tail _ (.tail _ (.tail _ (.tail _ (.tail _ h)))))) | exact fun _ h => .tail _ (.tail _ (.tail _ (.tail _ (.tail _ (.tail _ (.tail _ (.tail _ h))))))) | exact fun _ h => .tail _ (.tail _ (.tail _ (.tail _ (.tail _ (.tail _ (.tail _ (.tail _ (.tail _ h)))))))) | exact fun _ h => .tail _ (.tail _ (.tail _ (.tail _ (.tail _ (.tail _ (.tail _ (.tail _ (.tail _ (.tail _ h))))))))) | exact fun _ h => .tail _ (.tail _ (.tail _ (.tail _ (.tail _ (.tail _ (.tail _ (.tail _ (.tail _ (.tail _ (.tail _ h)))))))))) | exact fun _ h => .tail _ (.tail _ (.tail _ (.tail _ (.tail _ (.tail _ (.tail _ (.tail _ (.tail _ (.tail _ (.tail _ (.tail _ h))))))))))) | exact fun _ h => .tail _ (.tail _ (.tail _ (.tail _ (.tail _ (.tail _ (.tail _ (.tail _ (.tail _ (.tail _ (.tail _ (.tail _ (.tail _ h)))))))))))) | exact fun _ h => .tail _ (.tail _ (.tail _ (.tail _ (.tail _ (.tail _ (.tail _ (.tail _ (.tail _ (.tail _ (.tail _ (.tail _ (.tail _ (.tail _ h))))))))))))) | exact fun _ h => .tail _ (.tail _ (.tail _ (.tail _ (.tail _ (.tail _ (.tail _ (.tail _ (.tail _ (.tail _ (.tail _ (.tail _ (.tail _ (.tail _ (.tail _ h))))))))))))))) | exact Or.inl rfl); k_whole); intro v9 h9 tk9 F9 N9; (try dsimp only)))
local macro_rules | `(tactic| walk_at "exec Assert") => `(tactic| (refine Mine.assert_holds ?_))

local macro_rules | `(tactic| walk_at "call ref") => `(tactic| (k_here; (with_reducible show wpAny _ _ (call (Value.ref 78) _) _ _ _); k_dflt (refine' Mine.Ctr.use (Mine.c_normalize _ _ _ _ _ _ _ _ _ _ _ _ ?_ ?_ ?_) ?k1 ?k2 ?k3 ?k4 ?k5 ?k6 ?k7 ?k8 ?k9 ?_; (case k1 => k_asm); (case k2 => k_asm); (case k3 => k_asm); (case k4 => k_asm); (case k5 => k_asm); (case k9 => first | assumption | exact Mine.CalmN.sub (by assumption) (by first | exact fun _ h => h | exact fun _ h => .tail _ h | exact fun _ h => .tail _ (.tail _ h) | exact fun _ h => .tail _ (.tail _ (.tail _ h)) | exact fun _ h => .tail _ (.tail _ (.tail _ (.tail _ h))) | exact fun _ h => .tail _ (.tail _ (.tail _ (.tail _ (.tail _ h)))) | exact fun _ h => .tail _ (.tail _ (.tail _ (.tail _ (.tail _ (.tail _ h))))) | exact fun _ h => .tail _ (.tail _ (.tail _ (.tail _ (.tail _ (.tail _ (.tail _ h)))))) | exact fun _ h => .tail _ (.tail _ (.tail _ (.tail _ (.tail _ (.tail _ (.tail _ (.tail _ h))))))) | exact fun _ h => .tail _ (.tail _ (.tail _ (.tail _ (.tail _ (.tail _ (.tail _ (.tail _ (.tail _ h)))))))) | exact fun _ h => .tail _ (.tail _ (.tail _ (.tail _ (.tail _ (.tail _ (.tail _ (.tail _ (.tail _ (.tail _ h))))))))) | exact fun _ h => .tail _ (.tail _ (.tail _ (.tail _ (.tail _ (.tail _ (.tail _ (.tail _ (.tail _ (.tail _ (.tail _ h)))))))))) | exact fun _ h => .tail _ (.tail _ (.tail _ (.tail _ (.tail _ (.tail _ (.tail _ (.tail _ (.tail _ (.tail _ (.tail _ (.tail _ h))))))))))) | exact fun _ h => .tail _ (.tail _ (.tail _ (.tail _ (.tail _ (.tail _ (.tail _ (.tail _ (.tail _ (.tail _ (.tail _ (.tail _ (.tail _ h)))))))))))) | exact fun _ h => .tail _ (.tail _ (.tail _ (.tail _ (.tail _ (.tail _ (.tail _ (.tail _ (.tail _ (.tail _ (.tail _ (.tail _ (.tail _ (.tail _ h))))))))))))) | exact fun _ h => .tail _ (.tail _ (.tail _ (.tail _ (.tail _ (.tail _ (.tail _ (.tail _ (.tail _ (.tail _ (.tail _ (.tail _ (.tail _ (.tail _ (.tail _ h))))))))))))))) | exact Or.inl rfl); (case k6 => first | exact rfl | assumption); (case k7 => first | ((try dsimp only [Mine.ktrX]); (try simp only [depth_under_make, depth_under_kw, depth_in1, depth_deeper, depth_caller]); (try dsimp only [Mine.ktrX]); omega) | ((try dsimp only [Mine.ktrX] at *); ktr_room)); (case k8 => first | ((try dsimp only [Mine.ktrX]); (try simp only [units_in1, units_deeper, Around.mark_units, units_caller]); (try dsimp only [Mine.ktrX]); omega) | ((try dsimp only [Mine.ktrX] at *); ktr_units)); (first | assumption | k_mem | omega | rotate_left); (first | assumption | k_mem | omega | rotate_left); (first | assumption | k_mem | omega | rotate_left)); intro D9 t9 u9 v9 x9 h9 tk9 F9 N9; (try dsimp only); (try k_fold)))
local macro_rules | `(tactic| walk_at "call ref") => `(tactic| (k_here; (with_reducible show wpAny _ _ (call (Value.ref 78) _) _ _ _); k_dflt (refine' Mine.Ctr.use (Mine.c_normalize_d _ _ _ _ _ _ _ _ _ _ _ ?_ ?_ ?_) ?k1 ?k2 ?k3 ?k4 ?k5 ?k6 ?k7 ?k8 ?k9 ?_; (case k1 => k_asm); (case k2 => k_asm); (case k3 => k_asm); (case k4 => k_asm); (case k5 => k_asm); (case k9 => first | assumption | exact Mine.CalmN.sub (by assumption) (by first | exact fun _ h => h | exact fun _ h => .tail _ h | exact fun _ h => .tail _ (.tail _ h) | exact fun _ h => .tail _ (.tail _ (.tail _ h)) | exact fun _ h => .tail _ (.tail _ (.tail _ (.tail _ h))) | exact fun _ h => .tail _ (.tail _ (.tail _ (.tail _ (.tail _ h)))) | exact fun _ h => .tail _ (.tail _ (.tail _ (.tail _ (.tail _ (.tail _ h))))) | exact fun _ h => .tail _ (.tail _ (.tail _ (.tail _ (.tail _ (.tail _ (.tail _ h)))))) | exact fun _ h => .tail _ (.tail _ (.tail _ (.tail _ (.tail _ (.tail _ (.tail _ (.tail _ h))))))) | exact fun _ h => .tail _ (.tail _ (.tail _ (.tail _ (.tail _ (.tail _ (.tail _ (.tail _ (.tail _ h)))))))) | exact fun _ h => .tail _ (.tail _ (.tail _ (.tail _ (.tail _ (.tail _ (.tail _ (.tail _ (.tail _ (.tail _ h))))))))) | exact fun _ h => .tail _ (.tail _ (.tail _ (.tail _ (.tail _ (.tail _ (.tail _ (.tail _ (.tail _ (.tail _ (.tail _ h)))))))))) | exact fun _ h => .tail _ (.tail _ (.tail _ (.tail _ (.tail _ (.tail _ (.tail _ (.tail _ (.tail _ (.tail _ (.tail _ (.tail _ h))))))))))) | exact fun _ h => .tail _ (.tail _ (.tail _ (.tail _ (.tail _ (.tail _ (.tail _ (.tail _ (.tail _ (.tail _ (.tail _ (.tail _ (.tail _ h)))))))))))) | exact fun _ h => .tail _ (.tail _ (.tail _ (.tail _ (.tail _ (.tail _ (.tail _ (.tail _ (.tail _ (.tail _ (.tail _ (.tail _ (.tail _ (.tail _ h))))))))))))) | exact fun _ h => .tail _ (.tail _ (.tail _ (.tail _ (.tail _ (.tail _ (.tail _ (.tail _ (.tail _ (.tail _ (.tail _ (.tail _ (.tail _ (.tail _ (.tail _ h))))))))))))))) | exact Or.inl rfl); (case k6 => first | exact rfl | assumption); (case k7 => first | ((try dsimp only [Mine.ktrX]); (try simp only [depth_under_make, depth_under_kw, depth_in1, depth_deeper, depth_caller]); (try dsimp only [Mine.ktrX]); omega) | ((try dsimp only [Mine.ktrX] at *); ktr_room)); (case k8 => first | ((try dsimp only [Mine.ktrX]); (try simp only [units_in1, units_deeper, Around.mark_units, units_caller]); (try dsimp only [Mine.ktrX]); omega) | ((try dsimp only [Mine.ktrX] at *); ktr_units)); (first | assumption | k_mem | omega | rotate_left); (first | assumption | k_mem | omega | rotate_left); (first | assumption | k_mem | omega | rotate_left)); intro D9 t9 u9 v9 x9 h9 tk9 F9 N9; (try dsimp only); (try k_fold)))
local macro_rules | `(tactic| walk_at "call ref") => `(tactic| (k_here; (with_reducible show wpAny _ _ (call (Value.ref 78) _) _ _ _); k_dflt (refine' Mine.Ctr.use (Mine.c_normalize0 _ _ _ _ _ _ _ _ _ _ ) ?k1 ?k2 ?k3 ?k4 ?k5 ?k6 ?k7 ?k8 ?k9 ?_; (case k1 => k_asm); (case k2 => k_asm); (case k3 => k_asm); (case k4 => k_asm); (case k5 => k_asm); (case k9 => first | assumption | exact Mine.CalmN.sub (by assumption) (by first | exact fun _ h => h | exact fun _ h => .tail _ h | exact fun _ h => .tail _ (.tail _ h) | exact fun _ h => .tail _ (.tail _ (.tail _ h)) | exact fun _ h => .tail _ (.tail _ (.tail _ (.tail _ h))) | exact fun _ h => .tail _ (.tail _ (.tail _ (.tail _ (.tail _ h)))) | exact fun _ h => .tail _ (.tail _ (.tail _ (.tail _ (.tail _ (.tail _ h))))) | exact fun _ h => .tail _ (.tail _ (.tail _ (.tail _ (.tail _ (.tail _ (.tail _ h)))))) | exact fun _ h => .tail _ (.tail _ (.tail _ (.tail _ (.tail _ (.tail _ (.tail _ (.tail _ h))))))) | exact fun _ h => .tail _ (.tail _ (.tail _ (.tail _ (.tail _ (.tail _ (.tail _ (.tail _ (.tail _ h)))))))) | exact fun _ h => .tail _ (.tail _ (.tail _ (.tail _ (.tail _ (.tail _ (.tail _ (.tail _ (.tail _ (.tail _ h))))))))) | exact fun _ h => .tail _ (.tail _ (.tail _ (.tail _ (.tail _ (.tail _ (.tail _ (.tail _ (.tail _ (.tail _ (.tail _ h)))))))))) | exact fun _ h => .tail _ (.tail _ (.tail _ (.tail _ (.tail _ (.tail _ (.tail _ (.tail _ (.tail _ (.tail _ (.tail _ (.tail _ h))))))))))) | exact fun _ h => .tail _ (.tail _ (.tail _ (.tail _ (.tail _ (.tail _ (.tail _ (.tail _ (.tail _ (.tail _ (.tail _ (.tail _ (.tail _ h)))))))))))) | exact fun _ h => .tail _ (.tail _ (.tail _ (.tail _ (.tail _ (.tail _ (.tail _ (.tail _ (.tail _ (.tail _ (.tail _ (.tail _ (.tail _ (.tail _ h))))))))))))) | exact fun _ h => .tail _ (.tail _ (.tail _ (.tail _ (.tail _ (.tail _ (.tail _ (.tail _ (.tail _ (.tail _ (.tail _ (.tail _ (.tail _ (.tail _ (.tail _ h))))))))))))))) | exact Or.inl rfl); (case k6 => first | exact rfl | assumption); (case k7 => first | ((try dsimp only [Mine.ktrX]); (try simp only [depth_under_make, depth_under_kw, depth_in1, depth_deeper, depth_caller]); (try dsimp only [Mine.ktrX]); omega) | ((try dsimp only [Mine.ktrX] at *); ktr_room)); (case k8 => first | ((try dsimp only [Mine.ktrX]); (try simp only [units_in1, units_deeper, Around.mark_units, units_caller]); (try dsimp only [Mine.ktrX]); omega) | ((try dsimp only [Mine.ktrX] at *); ktr_units))); intro h9 tk9 F9 N9; (try dsimp only); (try k_fold)))

namespace Mine
open PySem.Builtin.Int (intBits)
theorem xor_self {g : Int} (h : g = 0 ∨ g = 1) : Builtin.bitXor g g = 0 := by rcases h with rfl | rfl <;> decide
set_option maxRecDepth 100000 in
set_option maxHeartbeats 8000000 in
theorem c_mul (w : World) (news : List (Addr × Obj)) (D : Addr) (g man exp b : Int) (t u v x : Tok) (hD : (D, o4 g man exp b t u v x) ∈ news) (hg : g = 0 ∨ g = 1) (hm : 0 < man) (hb : intBits man ≤ 4000) :
    Ctr w 125 1 news [.ref D, .ref D] (RetT4 news 0 (man * man) (exp + exp) (intBits (man * man))) := by
  have hmm : 0 < man * man := Int.mul_pos hm hm
  w_top off
  dsimp only [Ctr, RetI, RetT2, RetT4, RetB, RetZ]
  k_fill
  intro pp loose mean mg mb dp un gd cn cs a ccd cl outer A₀ base h₀ L m s hxx Q E B F X N T hk hdp hu hcalm hret
  refine wpAny_call ?_
  k_dflt (refine' code_def ?k1 ?k2 ?k3 ?k4 ?k5 ?kA ?kF ?kK ?k6 ?k7 ?k8 ?k9 ?kB ?_ ?c2 ?c3 ?c4 ?c5; (case kA => exact rfl); (case kF => exact rfl); (case kK => assumption); (case k1 => k_asm); (case k2 => k_asm); (case k3 => k_asm); (case k4 => k_asm); (case k5 => k_asm); (case k6 => k_is); (case k7 => k_is); (case k8 => first | ((try dsimp only [Mine.ktrX]); (try simp only [depth_under_make, depth_under_kw, depth_in1, depth_deeper, depth_caller]); (try dsimp only [Mine.ktrX]); omega) | ((try dsimp only [Mine.ktrX] at *); ktr_room)); (case k9 => first | exact BindsTo.of_eq rfl | exact binds_K (by k_in) rfl (by k_is) rfl rfl rfl); (case c5 => decide); (case kB => exact locs rfl); (case c2 => exact rfl); (case c3 => exact rfl); (case c4 => exact rfl); k_whole; intro g' L' h' FG' F' N' B' X' T'; (try dsimp only); (try k_lift B'); (try k_fold))
  k_with_none
  repeat' (first | (k_unfold; (try dsimp only)) | walk1 | (dsimp only; walk1) | (leave1; try dsimp only) | fail "no step")
  all_goals first
    | (rename Fr _ _ _ _ => lF; rename News _ _ _ _ => lN; exact retT4_end hret (xor_self hg) rfl rfl rfl lF lN (by k_mem) (by first | exact fun _ h => .tail _ h | exact fun _ h => h | exact fun _ h => .tail _ (.tail _ h) | exact fun _ h => .tail _ (.tail _ (.tail _ h)) | exact fun _ h => .tail _ (.tail _ (.tail _ (.tail _ h))) | exact fun _ h => .tail _ (.tail _ (.tail _ (.tail _ (.tail _ h))))))
    | exact mulOk_of_bits hb hb (by decide)
    | (exfalso; omega)
/-- the sum's number, by the lesser exponent -/
def addM (m1 e1 m2 e2 : Int) : Int := m1 * 2 ^ (e1 - lst e1 e2).toNat + m2 * 2 ^ (e2 - lst e1 e2).toNat
theorem add_gt {m1 e1 m2 e2 : Int} (h : 0 < e1 - e2) : m2 + m1 * 2 ^ (e1 - e2).toNat = addM m1 e1 m2 e2 ∧ e2 = lst e1 e2 := by
  have e : lst e1 e2 = e2 := by unfold lst; split <;> omega
  unfold addM
  rw [e, show (e2 - e2).toNat = 0 by omega]
  exact ⟨by omega, rfl⟩
theorem add_lt {m1 e1 m2 e2 : Int} (h : ¬ 0 < e1 - e2) : m1 + m2 * 2 ^ (-(e1 - e2)).toNat = addM m1 e1 m2 e2 ∧ e1 = lst e1 e2 := by
  have e : lst e1 e2 = e1 := by unfold lst; split <;> omega
  unfold addM
  rw [e, show (e1 - e1).toNat = 0 by omega, show -(e1 - e2) = e2 - e1 by omega]
  exact ⟨by omega, rfl⟩
theorem add_eq {m1 e1 m2 e2 : Int} (h : e1 - e2 = 0) : m2 + m1 = addM m1 e1 m2 e2 ∧ e2 = lst e1 e2 := by
  have e : lst e1 e2 = e2 := by unfold lst; split <;> omega
  have e' : e1 = e2 := by omega
  unfold addM
  rw [e, e', show (e2 - e2).toNat = 0 by omega]
  exact ⟨by omega, rfl⟩
theorem is3_of {wy : Way} {m e m' e' prec : Int} (h : m = m' ∧ e = e') : Is3 (rn wy m' e' prec) (rn wy m e prec).1 (rn wy m e prec).2.1 (rn wy m e prec).2.2 := by
  rw [h.1, h.2]; exact ⟨rfl, rfl, rfl⟩
theorem addM_pos {m1 e1 m2 e2 : Int} (h1 : 0 < m1) (h2 : 0 < m2) : 0 < addM m1 e1 m2 e2 := by
  have a := Int.mul_pos h1 (pow2_pos (e1 - lst e1 e2).toNat)
  have b := Int.mul_pos h2 (pow2_pos (e2 - lst e1 e2).toNat)
  unfold addM
  omega
theorem addM_bits {m1 e1 m2 e2 : Int} (hb1 : intBits m1 ≤ 4000) (hb2 : intBits m2 ≤ 4000) (ho : -100 ≤ e1 - e2 ∧ e1 - e2 ≤ 100) : (intBits (addM m1 e1 m2 e2) : Int) ≤ 100000 := by
  have ⟨l1, l2, l3⟩ := lst_le e1 e2
  have a := bits_mul hb1 (bits_two_pow (k := (e1 - lst e1 e2).toNat) (m := 100) (by omega))
  have b := bits_mul hb2 (bits_two_pow (k := (e2 - lst e1 e2).toNat) (m := 100) (by omega))
  have := bits_add a b
  unfold addM
  omega
set_option maxRecDepth 100000 in
set_option maxHeartbeats 8000000 in
theorem c_add (w : World) (news : List (Addr × Obj)) (D D2 : Addr) (m1 e1 b1 m2 e2 b2 prec : Int) (t u v x t' u' v' x' y : Tok) (hD : (D, o4 0 m1 e1 b1 t u v x) ∈ news) (hD2 : (D2, o4 0 m2 e2 b2 t' u' v' x') ∈ news) (h1 : 0 < m1) (h2 : 0 < m2) (ho : -100 ≤ e1 - e2 ∧ e1 - e2 ≤ 100) (hp : 1 ≤ prec) (hb1 : intBits m1 ≤ 4000) (hb2 : intBits m2 ≤ 4000) :
    Ctr w 117 4 news [.ref D, .ref D2, .int prec y] (RetT4 news 0 (rn .d (addM m1 e1 m2 e2) (lst e1 e2) prec).1 (rn .d (addM m1 e1 m2 e2) (lst e1 e2) prec).2.1 (rn .d (addM m1 e1 m2 e2) (lst e1 e2) prec).2.2) := by
  w_top off
  dsimp only [Ctr, RetI, RetT2, RetT4, RetB, RetZ]
  k_fill
  intro pp loose mean mg mb dp un gd cn cs a ccd cl outer A₀ base h₀ L m s hxx Q E B F X N T hk hdp hu hcalm hret
  refine wpAny_call ?_
  k_dflt (refine' code_def ?k1 ?k2 ?k3 ?k4 ?k5 ?kA ?kF ?kK ?k6 ?k7 ?k8 ?k9 ?kB ?_ ?c2 ?c3 ?c4 ?c5; (case kA => exact rfl); (case kF => exact rfl); (case kK => assumption); (case k1 => k_asm); (case k2 => k_asm); (case k3 => k_asm); (case k4 => k_asm); (case k5 => k_asm); (case k6 => k_is); (case k7 => k_is); (case k8 => first | ((try dsimp only [Mine.ktrX]); (try simp only [depth_under_make, depth_under_kw, depth_in1, depth_deeper, depth_caller]); (try dsimp only [Mine.ktrX]); omega) | ((try dsimp only [Mine.ktrX] at *); ktr_room)); (case k9 => first | exact BindsTo.of_eq rfl | exact binds_K (by k_in) rfl (by k_is) rfl rfl rfl); (case c5 => decide); (case kB => exact locs rfl); (case c2 => exact rfl); (case c3 => exact rfl); (case c4 => exact rfl); k_whole; intro g' L' h' FG' F' N' B' X' T'; (try dsimp only); (try k_lift B'); (try k_fold))
  k_with_none
  repeat' (first | (k_unfold; (try dsimp only)) | walk1 | (dsimp only; walk1) | (leave1; try dsimp only) | fail "no step")
  all_goals first
    | (rename Fr _ _ _ _ => lF; rename News _ _ _ _ => lN; refine retN_end hret ?_ lF lN (by k_mem) (by first | exact fun _ h => .tail _ h | exact fun _ h => h | exact fun _ h => .tail _ (.tail _ h) | exact fun _ h => .tail _ (.tail _ (.tail _ h)) | exact fun _ h => .tail _ (.tail _ (.tail _ (.tail _ h))) | exact fun _ h => .tail _ (.tail _ (.tail _ (.tail _ (.tail _ h)))))
       first
         | exact is3_of (add_gt (by assumption))
         | exact is3_of (add_lt (by assumption))
         | exact is3_of (add_eq (by assumption)))
    | (rw [(add_gt (by assumption)).1]; first | exact addM_pos h1 h2 | exact addM_bits hb1 hb2 ho)
    | (rw [(add_lt (by assumption)).1]; first | exact addM_pos h1 h2 | exact addM_bits hb1 hb2 ho)
    | (rw [(add_eq (by assumption)).1]; first | exact addM_pos h1 h2 | exact addM_bits hb1 hb2 ho)
    | (exfalso; omega)
end Mine

end
namespace Mine
open PySem.Builtin.Int (intBits)
theorem pow_split {a b c : Int} (h1 : c ≤ b) (h2 : b ≤ a) : (2:Int) ^ (a - c).toNat = 2 ^ (a - b).toNat * 2 ^ (b - c).toNat := by
  rw [← Int.pow_add]
  congr 1
  omega
theorem less_scale {one low two high K : Int} (h1 : K ≤ low) (h2 : K ≤ high) : lessv one low two high * 2 ^ (lst low high - K).toNat = two * 2 ^ (high - K).toNat - one * 2 ^ (low - K).toNat := by
  have ⟨l1, l2, l3⟩ := lst_le low high
  have hl : K ≤ lst low high := by omega
  unfold lessv
  rw [pow_split hl l1, pow_split hl l2, Int.sub_mul, Int.mul_assoc, Int.mul_assoc]
theorem sign_of {a p d : Int} (hp : 0 < p) (h : a * p = d) : (0 ≤ a ↔ 0 ≤ d) ∧ (a < 0 ↔ d < 0) ∧ (0 < a ↔ 0 < d) ∧ (a = 0 ↔ d = 0) := by
  subst h
  rcases Int.lt_trichotomy a 0 with h | h | h
  · have := Int.mul_neg_of_neg_of_pos h hp
    omega
  · subst h; simp
  · have := Int.mul_pos h hp
    omega
theorem less_sign {one low two high K : Int} (h1 : K ≤ low) (h2 : K ≤ high) :
    (0 ≤ lessv one low two high ↔ one * 2 ^ (low - K).toNat ≤ two * 2 ^ (high - K).toNat) ∧ (lessv one low two high < 0 ↔ two * 2 ^ (high - K).toNat < one * 2 ^ (low - K).toNat) ∧
    (0 < lessv one low two high ↔ one * 2 ^ (low - K).toNat < two * 2 ^ (high - K).toNat) ∧ (lessv one low two high = 0 ↔ one * 2 ^ (low - K).toNat = two * 2 ^ (high - K).toNat) := by
  have ⟨s1, s2, s3, s4⟩ := sign_of (pow2_pos _) (less_scale (one := one) (two := two) h1 h2)
  rw [s1, s2, s3, s4]
  refine ⟨?_, ?_, ?_, ?_⟩ <;> omega
/-- the root's number F and its place P -/
def IsRoot (whole power most F P : Int) : Prop :=
  2 ^ (most - 1).toNat ≤ F ∧ F < 2 ^ most.toNat ∧ 0 ≤ lessv (F * F) (2 * P) whole power ∧ lessv ((F + 1) * (F + 1)) (2 * P) whole power < 0
theorem pow_lt_of {a b : Nat} (h : (2:Int) ^ a < 2 ^ b) : a < b := by
  rcases Nat.lt_or_ge a b with h' | h'
  · exact h'
  · have := pow2_mono h'
    omega
theorem root_place {whole power most F P : Int} (hw : 0 < whole) (hm : 1 ≤ most) (h : IsRoot whole power most F P) : P = ((intBits whole : Int) + power + 1).fdiv 2 - most := by
  obtain ⟨h1, h2, h3, h4⟩ := h
  have hF : 0 < F := Int.lt_of_lt_of_le (pow2_pos _) h1
  -- scale
  have hK1 : min power (2 * P) ≤ power := by omega
  have hK2 : min power (2 * P) ≤ 2 * P := by omega
  generalize min power (2 * P) = K at hK1 hK2
  rw [(less_sign hK2 hK1).1] at h3
  rw [(less_sign hK2 hK1).2.1] at h4
  have b1 := bits_lo hw
  have b2 := lt_pow_bits (Int.le_of_lt hw)
  have b3 := bits_pos hw
  have hX := pow2_pos (power - K).toNat
  have hU := pow2_pos (2 * P - K).toNat
  have c1 := Int.mul_le_mul_of_nonneg_right b1 (Int.le_of_lt hX)
  have c2 := Int.mul_lt_mul_of_pos_right b2 hX
  have d1 : (2:Int) ^ (most - 1).toNat * 2 ^ (most - 1).toNat ≤ F * F := Int.mul_le_mul h1 h1 (Int.le_of_lt (pow2_pos _)) (Int.le_of_lt hF)
  have h2' : F + 1 ≤ 2 ^ most.toNat := by omega
  have d2 : (F + 1) * (F + 1) ≤ (2:Int) ^ most.toNat * 2 ^ most.toNat := Int.mul_le_mul h2' h2' (by omega) (Int.le_of_lt (pow2_pos _))
  have e1 := Int.mul_le_mul_of_nonneg_right d1 (Int.le_of_lt hU)
  have e2 := Int.mul_le_mul_of_nonneg_right d2 (Int.le_of_lt hU)
  rw [← Int.pow_add, ← Int.pow_add] at e1 e2
  rw [← Int.pow_add] at c1 c2
  have g1 := pow_lt_of (Int.lt_of_le_of_lt (Int.le_trans e1 h3) c2)
  have g2 := pow_lt_of (Int.lt_of_le_of_lt c1 (Int.lt_of_lt_of_le h4 e2))
  have ⟨_, f1, f2, _⟩ := fdiv_fmod_facts ((intBits whole : Int) + power + 1) 2
  have f2 := f2 (by decide)
  omega
theorem root_uniq {whole power most F P F' P' : Int} (hw : 0 < whole) (hm : 1 ≤ most) (h : IsRoot whole power most F P) (h' : IsRoot whole power most F' P') : F = F' ∧ P = P' := by
  have e := (root_place hw hm h).trans (root_place hw hm h').symm
  subst e
  refine ⟨?_, rfl⟩
  obtain ⟨h1, h2, h3, h4⟩ := h
  obtain ⟨k1, k2, k3, k4⟩ := h'
  have hF : 0 < F := Int.lt_of_lt_of_le (pow2_pos _) h1
  have hF' : 0 < F' := Int.lt_of_lt_of_le (pow2_pos _) k1
  have hK1 : min power (2 * P) ≤ power := by omega
  have hK2 : min power (2 * P) ≤ 2 * P := by omega
  generalize min power (2 * P) = K at hK1 hK2
  rw [(less_sign hK2 hK1).1] at h3 k3
  rw [(less_sign hK2 hK1).2.1] at h4 k4
  have hU := pow2_pos (2 * P - K).toNat
  generalize (2:Int) ^ (2 * P - K).toNat = U at *
  have a1 : F * F < (F' + 1) * (F' + 1) := Int.lt_of_mul_lt_mul_right (a := U) (by omega) (Int.le_of_lt hU)
  have a2 : F' * F' < (F + 1) * (F + 1) := Int.lt_of_mul_lt_mul_right (a := U) (by omega) (Int.le_of_lt hU)
  have m1 : ¬ F' + 1 ≤ F := fun q => by
    have := Int.mul_le_mul q q (by omega) (by omega); omega
  have m2 : ¬ F + 1 ≤ F' := fun q => by
    have := Int.mul_le_mul q q (by omega) (by omega); omega
  omega
/-- is the number rounded up -/
def lrUp : Way → Int → Int → Int → Int → Int
  | .f, _, _, _, _ => 0
  | .d, _, _, _, _ => 0
  | .c, F, P, whole, power => if 0 < lessv (F * F) (2 * P) whole power then 1 else 0
  | .u, F, P, whole, power => if 0 < lessv (F * F) (2 * P) whole power then 1 else 0
  | .n, F, P, whole, power => if 0 < lessv ((2 * F + 1) * (2 * F + 1)) (2 * P) whole (power + 2) ∨ (lessv ((2 * F + 1) * (2 * F + 1)) (2 * P) whole (power + 2) = 0 ∧ F % 2 = 1) then 1 else 0
open Classical in
/-- the law's root -/
noncomputable def lr (wy : Way) (whole power most : Int) : Int × Int × Int :=
  if h : ∃ q : Int × Int, IsRoot whole power most q.1 q.2 then nm (h.choose.1 + lrUp wy h.choose.1 h.choose.2 whole power) h.choose.2 else (0, 0, 0)
theorem lr_of {wy : Way} {whole power most F P : Int} (hw : 0 < whole) (hm : 1 ≤ most) (h : IsRoot whole power most F P) : lr wy whole power most = nm (F + lrUp wy F P whole power) P := by
  have hx : ∃ q : Int × Int, IsRoot whole power most q.1 q.2 := ⟨(F, P), h⟩
  unfold lr
  rw [dif_pos hx]
  have ⟨e1, e2⟩ := root_uniq hw hm hx.choose_spec h
  rw [e1, e2]
end Mine

namespace Mine
open PySem.Builtin.Int (intBits)
theorem sq_le_sq {a b : Int} (h0 : 0 ≤ a) (h : a ≤ b) : a * a ≤ b * b := Int.mul_le_mul h h h0 (by omega)
theorem sq_lt_sq {a b : Int} (h0 : 0 ≤ a) (h : a < b) : a * a < b * b := by
  have := sq_le_sq (a := a + 1) (b := b) (by omega) (by omega)
  have e : (a + 1) * (a + 1) = a * a + 2 * a + 1 := by grind
  omega
/-- both sides at one scale: the root's square, the number -/
structure Scale (R E whole power U X K : Int) : Prop where
  k1 : K ≤ power
  k2 : K ≤ 2 * E
  u : U = 2 ^ (2 * E - K).toNat
  x : X = whole * 2 ^ (power - K).toNat
  upos : 0 < U
theorem scale_ex (R E whole power : Int) : ∃ U X K, Scale R E whole power U X K :=
  ⟨_, _, min power (2 * E), ⟨by omega, by omega, rfl, rfl, pow2_pos _⟩⟩
theorem scale_pow {E K n : Int} (hn : 0 ≤ n) (k2 : K ≤ 2 * E) : (2:Int) ^ (2 * (E + n) - K).toNat = 2 ^ n.toNat * 2 ^ n.toNat * 2 ^ (2 * E - K).toNat := by
  rw [← Int.pow_add, ← Int.pow_add]
  congr 1
  omega
section
variable {whole power most R E U X K : Int}
theorem less_at (S : Scale R E whole power U X K) (F : Int) {n : Int} (hn : 0 ≤ n) :
    (0 ≤ lessv (F * F) (2 * (E + n)) whole power ↔ (F * 2 ^ n.toNat) * (F * 2 ^ n.toNat) * U ≤ X) ∧ (lessv (F * F) (2 * (E + n)) whole power < 0 ↔ X < (F * 2 ^ n.toNat) * (F * 2 ^ n.toNat) * U) ∧
    (0 < lessv (F * F) (2 * (E + n)) whole power ↔ (F * 2 ^ n.toNat) * (F * 2 ^ n.toNat) * U < X) ∧ (lessv (F * F) (2 * (E + n)) whole power = 0 ↔ (F * 2 ^ n.toNat) * (F * 2 ^ n.toNat) * U = X) := by
  have h := less_sign (one := F * F) (two := whole) (low := 2 * (E + n)) (high := power) (K := K) (by have := S.k2; omega) S.k1
  rw [scale_pow hn S.k2, ← S.u, ← S.x] at h
  have e : F * F * (2 ^ n.toNat * 2 ^ n.toNat * U) = (F * 2 ^ n.toNat) * (F * 2 ^ n.toNat) * U := by grind
  rw [e] at h
  exact h
theorem half_at (S : Scale R E whole power U X K) (F : Int) {n : Int} (hn : 0 ≤ n) :
    (0 < lessv (F * F) (2 * (E + n)) whole (power + 2) ↔ (F * 2 ^ n.toNat) * (F * 2 ^ n.toNat) * U < 4 * X) ∧ (lessv (F * F) (2 * (E + n)) whole (power + 2) = 0 ↔ (F * 2 ^ n.toNat) * (F * 2 ^ n.toNat) * U = 4 * X) := by
  have h := less_sign (one := F * F) (two := whole) (low := 2 * (E + n)) (high := power + 2) (K := K) (by have := S.k2; omega) (by have := S.k1; omega)
  have e2 : whole * 2 ^ (power + 2 - K).toNat = 4 * X := by
    rw [S.x, show (power + 2 - K).toNat = (power - K).toNat + 2 by have := S.k1; omega, Int.pow_add]
    grind
  rw [scale_pow hn S.k2, ← S.u, e2] at h
  have e : F * F * (2 ^ n.toNat * 2 ^ n.toNat * U) = (F * 2 ^ n.toNat) * (F * 2 ^ n.toNat) * U := by grind
  rw [e] at h
  exact ⟨h.2.2.1, h.2.2.2⟩
theorem less_at0 (S : Scale R E whole power U X K) (F : Int) :
    (0 ≤ lessv (F * F) (2 * E) whole power ↔ F * F * U ≤ X) ∧ (lessv (F * F) (2 * E) whole power < 0 ↔ X < F * F * U) ∧
    (0 < lessv (F * F) (2 * E) whole power ↔ F * F * U < X) ∧ (lessv (F * F) (2 * E) whole power = 0 ↔ F * F * U = X) := by
  have := less_at S F (n := 0) (Int.le_refl 0)
  simpa using this
theorem root_big (hm : 1 ≤ most) (hR : 0 < R) (hn : 0 < (intBits R : Int) - most) (S : Scale R E whole power U X K) (h3 : R * R * U ≤ X) (h4 : X < (R + 1) * (R + 1) * U) :
    IsRoot whole power most (R.fdiv (2 ^ ((intBits R : Int) - most).toNat)) (E + ((intBits R : Int) - most)) := by
  have hr := fdiv_pow_range hR hm hn
  have ⟨f1, f2⟩ := fdiv_pow_facts R ((intBits R : Int) - most).toNat
  have hp := pow2_pos (most - 1).toNat
  refine ⟨hr.1, hr.2, ?_, ?_⟩
  · rw [(less_at S _ (Int.le_of_lt hn)).1]
    have hF : 0 ≤ R.fdiv (2 ^ ((intBits R : Int) - most).toNat) * 2 ^ ((intBits R : Int) - most).toNat := Int.mul_nonneg (by omega) (Int.le_of_lt (pow2_pos _))
    exact Int.le_trans (Int.mul_le_mul_of_nonneg_right (sq_le_sq hF f1) (Int.le_of_lt S.upos)) h3
  · rw [(less_at S _ (Int.le_of_lt hn)).2.1]
    have : R + 1 ≤ (R.fdiv (2 ^ ((intBits R : Int) - most).toNat) + 1) * 2 ^ ((intBits R : Int) - most).toNat := by rw [Int.add_mul]; omega
    exact Int.lt_of_lt_of_le h4 (Int.mul_le_mul_of_nonneg_right (sq_le_sq (by omega) this) (Int.le_of_lt S.upos))
theorem mul_lt_iff {a b u : Int} (h : 0 < u) : a * u < b * u ↔ a < b := ⟨fun q => Int.lt_of_mul_lt_mul_right q (Int.le_of_lt h), fun q => Int.mul_lt_mul_of_pos_right q h⟩
theorem mul_eq_iff {a b u : Int} (h : 0 < u) : a * u = b * u ↔ a = b := ⟨fun q => Int.eq_of_mul_eq_mul_right (by omega) q, fun q => by rw [q]⟩
theorem sq_lt_iff {a b : Int} (ha : 0 ≤ a) (hb : 0 ≤ b) : a * a < b * b ↔ a < b := ⟨fun q => by
  rcases (show a < b ∨ b ≤ a by omega) with h | h
  · exact h
  · have := sq_le_sq hb h; omega, fun q => sq_lt_sq ha q⟩
theorem sq_eq_iff {a b : Int} (ha : 0 ≤ a) (hb : 0 ≤ b) : a * a = b * b ↔ a = b := ⟨fun q => by
  rcases Int.lt_trichotomy a b with h | h | h
  · have := sq_lt_sq ha h; omega
  · exact h
  · have := sq_lt_sq hb h; omega, fun q => by rw [q]⟩
/-- the way to the nearest, read off the quotient and the rest -/
theorem rsh_n_val {man n : Int} (hm : 0 ≤ man) (hn : 0 < n) {F h q ρ : Int} (hq : q = 2 ^ (n - 1).toNat) (e : man = (2 * F + h) * q + ρ) (h0 : h = 0 ∨ h = 1) (r0 : 0 ≤ ρ) (r1 : ρ < q) (hF : 0 ≤ F) :
    rsh .n man n = F + (if h = 1 ∧ (F % 2 = 1 ∨ ρ ≠ 0) then 1 else 0) := by
  have hqp : 0 < q := by rw [hq]; exact pow2_pos _
  have ⟨f1, f2⟩ := fdiv_pow_facts man (n - 1).toNat
  rw [← hq] at f1 f2
  have et : man.fdiv (2 ^ (n - 1).toNat) = 2 * F + h := by
    rw [← hq]
    rw [← hq] at *
    generalize man.fdiv q = t at *
    have a1 : ¬ t + 1 ≤ 2 * F + h := fun c => by
      have := Int.mul_le_mul_of_nonneg_right c (Int.le_of_lt hqp); rw [Int.add_mul] at this; omega
    have a2 : ¬ 2 * F + h + 1 ≤ t := fun c => by
      have := Int.mul_le_mul_of_nonneg_right c (Int.le_of_lt hqp); rw [Int.add_mul] at this; omega
    omega
  have em : Builtin.bitAnd man (1 * 2 ^ (n - 1).toNat - 1) = ρ := by
    rw [bitAnd_mask hm, ← hq, e, Int.add_comm, Int.add_mul_emod_self_right]
    exact Int.emod_eq_of_lt r0 r1
  have ht : 0 ≤ 2 * F + h := by omega
  have e1 : Builtin.bitAnd (2 * F + h) 1 = h := by rw [bitAnd_one ht]; omega
  have e2 : Builtin.bitAnd (2 * F + h) 2 = 2 * (F % 2) := by rw [bitAnd_two ht]; omega
  have e3 : (2 * F + h).fdiv (2 ^ Int.toNat 1) = F := by
    rw [show (2:Int) ^ Int.toNat 1 = 2 by decide, Int.fdiv_eq_ediv_of_nonneg _ (by decide)]; omega
  show (if _ then _ else _) = _
  rw [et, em, e1, e2, e3]
  rcases h0 with rfl | rfl
  · simp
  · by_cases c1 : F % 2 = 1
    · rw [if_pos ⟨by decide, .inl (by omega)⟩, if_pos ⟨rfl, .inl c1⟩]
    · by_cases c2 : ρ = 0
      · rw [if_neg (fun c => c.2.elim (fun d => d (by omega)) (fun d => d c2)), if_neg (fun c => c.2.elim c1 (fun d => d c2))]
        omega
      · rw [if_pos ⟨by decide, .inr c2⟩, if_pos ⟨rfl, .inr c2⟩]
end
end Mine

namespace Mine
open PySem.Builtin.Int (intBits)
section
variable {whole power most R E U X K : Int}
theorem isFD_cases {wy : Way} (h : wy.isFD = true) : wy = .f ∨ wy = .d := by
  cases wy <;> first | exact .inl rfl | exact .inr rfl | (unfold Way.isFD at h; cases h)
theorem isFD_not {wy : Way} (h : wy.isFD = false) : wy = .n ∨ wy = .c ∨ wy = .u := by
  cases wy <;> first | exact .inl rfl | exact .inr (.inl rfl) | exact .inr (.inr rfl) | (unfold Way.isFD at h; cases h)
theorem ceil_pow (a : Int) (k : Nat) : -(-a).fdiv (2 ^ k) = a.fdiv (2 ^ k) + (if a.fdiv (2 ^ k) * 2 ^ k < a then 1 else 0) := by
  have ⟨f1, f2⟩ := fdiv_pow_facts a k
  have ⟨g1, g2⟩ := fdiv_pow_facts (-a) k
  have hp := pow2_pos k
  generalize a.fdiv (2 ^ k) = q at *
  generalize (-a).fdiv (2 ^ k) = r at *
  generalize (2:Int) ^ k = p at *
  have n1 : (-r) * p = -(r * p) := Int.neg_mul _ _
  split
  · rename_i h
    have a1 : ¬ -r ≤ q := fun c => by
      have := Int.mul_le_mul_of_nonneg_right c (Int.le_of_lt hp); omega
    have a2 : ¬ q + 2 ≤ -r := fun c => by
      have := Int.mul_le_mul_of_nonneg_right c (Int.le_of_lt hp); rw [Int.add_mul] at this; omega
    omega
  · rename_i h
    have a1 : ¬ -r + 1 ≤ q := fun c => by
      have := Int.mul_le_mul_of_nonneg_right c (Int.le_of_lt hp); rw [Int.add_mul] at this; omega
    have a2 : ¬ q + 1 ≤ -r := fun c => by
      have := Int.mul_le_mul_of_nonneg_right c (Int.le_of_lt hp); rw [Int.add_mul] at this; omega
    omega
/-- R in quotient, half and rest -/
theorem parts (R : Int) {n : Int} (hR : 0 < R) (hn : 0 < n) : ∃ F h ρ q : Int, q = 2 ^ (n - 1).toNat ∧ (2:Int) ^ n.toNat = 2 * q ∧ R.fdiv (2 ^ n.toNat) = F ∧ R = (2 * F + h) * q + ρ ∧ (h = 0 ∨ h = 1) ∧ 0 ≤ ρ ∧ ρ < q ∧ 0 ≤ F := by
  have ⟨f1, f2⟩ := fdiv_pow_facts R n.toNat
  have ep : (2:Int) ^ n.toNat = 2 * 2 ^ (n - 1).toNat := by
    rw [show n.toNat = (n - 1).toNat + 1 by omega, Int.pow_succ]; omega
  have hq := pow2_pos (n - 1).toNat
  have hp := pow2_pos n.toNat
  have hF : 0 ≤ R.fdiv (2 ^ n.toNat) := by
    have : ¬ R.fdiv (2 ^ n.toNat) + 1 ≤ 0 := fun c => by
      have := Int.mul_le_mul_of_nonneg_right c (Int.le_of_lt hp); rw [Int.add_mul] at this; omega
    omega
  generalize R.fdiv (2 ^ n.toNat) = F at *
  rw [ep] at f1 f2
  generalize (2:Int) ^ (n - 1).toNat = q at *
  have e1 : F * (2 * q) = 2 * (F * q) := by grind
  rcases (show R < F * (2 * q) + q ∨ F * (2 * q) + q ≤ R by omega) with h | h
  · refine ⟨F, 0, R - F * (2 * q), q, rfl, ep, rfl, ?_, .inl rfl, by omega, by omega, hF⟩
    grind
  · refine ⟨F, 1, R - F * (2 * q) - q, q, rfl, ep, rfl, ?_, .inr rfl, by omega, by omega, hF⟩
    grind
theorem up_exact (wy : Way) (hR : 0 < R) {n : Int} (hn : 0 < n) (S : Scale R E whole power U X K) (hx : R * R * U = X) :
    rsh wy R n = R.fdiv (2 ^ n.toNat) + lrUp wy (R.fdiv (2 ^ n.toNat)) (E + n) whole power := by
  have hU := S.upos
  have ⟨f1, f2⟩ := fdiv_pow_facts R n.toNat
  have hp := pow2_pos n.toNat
  have ceil : (if R.fdiv (2 ^ n.toNat) * 2 ^ n.toNat < R then (1:Int) else 0) = if 0 < lessv (R.fdiv (2 ^ n.toNat) * R.fdiv (2 ^ n.toNat)) (2 * (E + n)) whole power then 1 else 0 := by
    obtain ⟨F, h, ρ, q, _, _, hF, _, _, _, _, hF0⟩ := parts R hR hn
    have h0 : 0 ≤ R.fdiv (2 ^ n.toNat) * 2 ^ n.toNat := Int.mul_nonneg (by omega) (Int.le_of_lt hp)
    have := (less_at S (R.fdiv (2 ^ n.toNat)) (Int.le_of_lt hn)).2.2.1
    rw [← hx, mul_lt_iff hU, sq_lt_iff h0 (Int.le_of_lt hR)] at this
    simp only [this]
  cases wy with
  | f => show _ = _ + 0; simp [rsh]
  | d => show _ = _ + 0; simp [rsh]
  | c => show -(-R).fdiv _ = _ + (if _ then _ else _); rw [ceil_pow, ceil]
  | u => show -(-R).fdiv _ = _ + (if _ then _ else _); rw [ceil_pow, ceil]
  | n =>
    obtain ⟨F, h, ρ, q, hq, hpq, hF, hRe, hh, r0, r1, hF0⟩ := parts R hR hn
    rw [rsh_n_val (Int.le_of_lt hR) hn hq hRe hh r0 r1 hF0, hF]
    have hb := half_at S (2 * F + 1) (Int.le_of_lt hn)
    have hq0 : 0 < q := by rw [hq]; exact pow2_pos _
    have e : (2 * F + 1) * (2:Int) ^ n.toNat = 2 * ((2 * F + 1) * q) := by rw [hpq]; grind
    have e4 : ∀ Z : Int, 2 * Z * (2 * Z) * U = 4 * (Z * Z * U) := fun Z => by grind
    rw [e, e4, ← hx] at hb
    have hZ : 0 ≤ (2 * F + 1) * q := Int.mul_nonneg (by omega) (Int.le_of_lt hq0)
    have b1 : 4 * ((2 * F + 1) * q * ((2 * F + 1) * q) * U) < 4 * (R * R * U) ↔ (2 * F + 1) * q < R := by
      have q1 : ((2 * F + 1) * q * ((2 * F + 1) * q) * U < R * R * U) ↔ (2 * F + 1) * q < R := by rw [mul_lt_iff hU, sq_lt_iff hZ (Int.le_of_lt hR)]
      rw [← q1]; omega
    have b2 : 4 * ((2 * F + 1) * q * ((2 * F + 1) * q) * U) = 4 * (R * R * U) ↔ (2 * F + 1) * q = R := by
      have q1 : ((2 * F + 1) * q * ((2 * F + 1) * q) * U = R * R * U) ↔ (2 * F + 1) * q = R := by rw [mul_eq_iff hU, sq_eq_iff hZ (Int.le_of_lt hR)]
      rw [← q1]; omega
    rw [b1, b2] at hb
    show F + _ = F + (if _ then _ else _)
    have c1 : (h = 1 ∧ (F % 2 = 1 ∨ ρ ≠ 0)) ↔ ((2 * F + 1) * q < R ∨ ((2 * F + 1) * q = R ∧ F % 2 = 1)) := by
      have x1 : (2 * F + h) * q = (2 * F + 1) * q - (1 - h) * q := by grind
      rcases hh with rfl | rfl
      · rw [hRe, x1]; omega
      · rw [hRe]; omega
    simp only [hb.1, hb.2, c1]
theorem lr_exact_up (wy : Way) (hm : 1 ≤ most) (hR : 0 < R) (hw : 0 < whole) (hn : 0 < (intBits R : Int) - most) (S : Scale R E whole power U X K) (hx : R * R * U = X) : rn wy R E most = lr wy whole power most := by
  have h4 : X < (R + 1) * (R + 1) * U := by
    rw [← hx, mul_lt_iff S.upos]; exact sq_lt_sq (Int.le_of_lt hR) (by omega)
  rw [lr_of hw hm (root_big hm hR hn S (by omega) h4)]
  unfold rn
  rw [if_pos hn, up_exact wy hR hn S hx]
theorem nm_mul {n e : Int} (h : 0 < n) (k : Nat) : nm (2 ^ k * n) e = nm n (e + k) := by
  have ⟨a, b⟩ := sM_mul h k
  unfold nm
  rw [a, b]
  have : e + ((tz n + k : Nat) : Int) = e + k + tz n := by omega
  rw [this]
theorem lr_exact_dn (wy : Way) (hm : 1 ≤ most) (hR : 0 < R) (hw : 0 < whole) (hn : ¬ 0 < (intBits R : Int) - most) (S : Scale R E whole power U X K) (hx : R * R * U = X) : rn wy R E most = lr wy whole power most := by
  -- the root, lengthened to so many bits
  have hb := bits_pos hR
  have hU := S.upos
  have hk : 0 ≤ most - (intBits R : Int) := by omega
  have hpk := pow2_pos (most - (intBits R : Int)).toNat
  have b1 := bits_lo hR
  have b2 := lt_pow_bits (Int.le_of_lt hR)
  have hF : 0 < 2 ^ (most - (intBits R : Int)).toNat * R := Int.mul_pos hpk hR
  -- a scale low enough for both
  have S2 : Scale R (E - (most - (intBits R : Int))) whole power (2 ^ (2 * (E - (most - (intBits R : Int))) - (K - 2 * (most - (intBits R : Int)))).toNat) (whole * 2 ^ (power - (K - 2 * (most - (intBits R : Int)))).toNat) (K - 2 * (most - (intBits R : Int))) :=
    ⟨by have := S.k1; omega, by have := S.k2; omega, rfl, rfl, pow2_pos _⟩
  have eU : (2:Int) ^ (2 * (E - (most - (intBits R : Int))) - (K - 2 * (most - (intBits R : Int)))).toNat = U := by
    rw [S.u]; congr 1; omega
  have eX : whole * 2 ^ (power - (K - 2 * (most - (intBits R : Int)))).toNat = (2 ^ (most - (intBits R : Int)).toNat * R) * (2 ^ (most - (intBits R : Int)).toNat * R) * U := by
    rw [show (power - (K - 2 * (most - (intBits R : Int)))).toNat = (power - K).toNat + ((most - (intBits R : Int)).toNat + (most - (intBits R : Int)).toNat) by have := S.k1; omega, Int.pow_add, Int.pow_add, ← Int.mul_assoc, ← S.x, ← hx]
    grind
  rw [eU, eX] at S2
  generalize hF' : 2 ^ (most - (intBits R : Int)).toNat * R = F at *
  have hlo : (2:Int) ^ (most - 1).toNat ≤ F := by
    rw [← hF', show (most - 1).toNat = (most - (intBits R : Int)).toNat + (intBits R - 1) by omega, Int.pow_add]
    exact Int.mul_le_mul_of_nonneg_left b1 (Int.le_of_lt hpk)
  have hhi : F < (2:Int) ^ most.toNat := by
    rw [← hF', show most.toNat = (most - (intBits R : Int)).toNat + intBits R by omega, Int.pow_add]
    exact Int.mul_lt_mul_of_pos_left b2 hpk
  have hroot : IsRoot whole power most F (E - (most - (intBits R : Int))) := by
    refine ⟨hlo, hhi, ?_, ?_⟩
    · rw [(less_at0 S2 F).1]; exact Int.le_refl _
    · rw [(less_at0 S2 (F + 1)).2.1, mul_lt_iff hU]
      exact sq_lt_sq (Int.le_of_lt hF) (by omega)
  rw [lr_of hw hm hroot]
  have hup : lrUp wy F (E - (most - (intBits R : Int))) whole power = 0 := by
    have z1 : ¬ 0 < lessv (F * F) (2 * (E - (most - (intBits R : Int)))) whole power := by
      rw [(less_at0 S2 F).2.2.1]; omega
    have hh := half_at S2 (2 * F + 1) (n := 0) (Int.le_refl 0)
    have e0 : (2 * F + 1) * (2:Int) ^ Int.toNat 0 = 2 * F + 1 := by simp
    rw [e0] at hh
    have lt : 4 * (F * F * U) < (2 * F + 1) * (2 * F + 1) * U := by
      have : 4 * (F * F * U) = 2 * F * (2 * F) * U := by grind
      rw [this, mul_lt_iff hU]
      exact sq_lt_sq (by omega) (by omega)
    simp only [Int.add_zero] at hh
    have z2 : ¬ (0 < lessv ((2 * F + 1) * (2 * F + 1)) (2 * (E - (most - (intBits R : Int)))) whole (power + 2) ∨ (lessv ((2 * F + 1) * (2 * F + 1)) (2 * (E - (most - (intBits R : Int)))) whole (power + 2) = 0 ∧ F % 2 = 1)) := by
      rw [hh.1, hh.2]; omega
    cases wy with
    | f => rfl
    | d => rfl
    | c => exact if_neg z1
    | u => exact if_neg z1
    | n => exact if_neg z2
  rw [hup, Int.add_zero, ← hF', nm_mul hR]
  unfold rn
  rw [if_neg hn]
  congr 1
  omega
/-- an exact root -/
theorem rn_exact (wy : Way) (hm : 1 ≤ most) (hR : 0 < R) (hw : 0 < whole) (hx : lessv (R * R) (2 * E) whole power = 0) : rn wy R E most = lr wy whole power most := by
  obtain ⟨U, X, K, S⟩ := scale_ex R E whole power
  rw [(less_at0 S R).2.2.2] at hx
  by_cases hn : 0 < (intBits R : Int) - most
  · exact lr_exact_up wy hm hR hw hn S hx
  · exact lr_exact_dn wy hm hR hw hn S hx
/-- a root from below, cut off -/
theorem rn_down {wy : Way} (hwy : wy.isFD = true) (hm : 1 ≤ most) (hR : 0 < R) (hw : 0 < whole) (hn : 0 < (intBits R : Int) - most) (h3 : 0 ≤ lessv (R * R) (2 * E) whole power) (h4 : lessv ((R + 1) * (R + 1)) (2 * E) whole power < 0) : rn wy R E most = lr wy whole power most := by
  obtain ⟨U, X, K, S⟩ := scale_ex R E whole power
  rw [(less_at0 S R).1] at h3
  rw [(less_at0 S (R + 1)).2.1] at h4
  rw [lr_of hw hm (root_big hm hR hn S h3 h4)]
  unfold rn
  rw [if_pos hn]
  rcases isFD_cases hwy with rfl | rfl
  · show nm (R.fdiv _) _ = nm (R.fdiv _ + 0) _; rw [Int.add_zero]
  · show nm (R.fdiv _) _ = nm (R.fdiv _ + 0) _; rw [Int.add_zero]
end
end Mine

namespace Mine
open PySem.Builtin.Int (intBits)
section
variable {whole power most R E U X K : Int}
theorem bits_two {R : Int} (hR : 0 < R) : intBits (2 * R + 1) = intBits R + 1 := by
  have b1 := bits_lo hR
  have b2 := lt_pow_bits (Int.le_of_lt hR)
  have b3 := bits_pos hR
  refine bits_eq ?_ ?_
  · rw [show intBits R = (intBits R - 1) + 1 by omega, Int.pow_succ]; omega
  · rw [Int.pow_succ]; omega
theorem up_sticky {wy : Way} (hwy : wy.isFD = false) (hR : 0 < R) {n : Int} (hn : 0 < n) (S : Scale R E whole power U X K) (h3 : R * R * U < X) (h4 : X < (R + 1) * (R + 1) * U) :
    rsh wy (2 * R + 1) (n + 1) = R.fdiv (2 ^ n.toNat) + lrUp wy (R.fdiv (2 ^ n.toNat)) (E + n) whole power := by
  have hU := S.upos
  obtain ⟨F, h, ρ, q, hq, hpq, hF, hRe, hh, r0, r1, hF0⟩ := parts R hR hn
  have hq0 : 0 < q := by rw [hq]; exact pow2_pos _
  have ⟨f1, f2⟩ := fdiv_pow_facts R n.toNat
  have ep : (2:Int) ^ (n + 1).toNat = 2 * 2 ^ n.toNat := by rw [show (n + 1).toNat = n.toNat + 1 by omega, Int.pow_succ]; omega
  have hp := pow2_pos n.toNat
  have hp1 := pow2_pos (n + 1).toNat
  have ⟨g1, g2⟩ := fdiv_pow_facts (2 * R + 1) (n + 1).toNat
  rw [hF] at f1 f2 ⊢
  have eF : (2 * R + 1).fdiv (2 ^ (n + 1).toNat) = F := by
    rw [ep] at g1 g2 ⊢
    generalize (2:Int) ^ n.toNat = p at *
    generalize (2 * R + 1).fdiv (2 * p) = G at *
    have x : F * (2 * p) = 2 * (F * p) := by grind
    have a1 : ¬ G + 1 ≤ F := fun c => by
      have := Int.mul_le_mul_of_nonneg_right c (show 0 ≤ 2 * p by omega); rw [Int.add_mul] at this; omega
    have a2 : ¬ F + 1 ≤ G := fun c => by
      have := Int.mul_le_mul_of_nonneg_right c (show 0 ≤ 2 * p by omega); rw [Int.add_mul] at this; omega
    omega
  have hceil : (if F * 2 ^ (n + 1).toNat < 2 * R + 1 then (1:Int) else 0) = 1 := by
    refine if_pos ?_
    rw [ep]
    have x : F * (2 * (2:Int) ^ n.toNat) = 2 * (F * 2 ^ n.toNat) := by grind
    omega
  have hless : (if 0 < lessv (F * F) (2 * (E + n)) whole power then (1:Int) else 0) = 1 := by
    refine if_pos ?_
    rw [(less_at S F (Int.le_of_lt hn)).2.2.1]
    have h0 : 0 ≤ F * 2 ^ n.toNat := Int.mul_nonneg hF0 (Int.le_of_lt hp)
    exact Int.lt_of_le_of_lt (Int.mul_le_mul_of_nonneg_right (sq_le_sq h0 f1) (Int.le_of_lt hU)) h3
  rcases isFD_not hwy with rfl | rfl | rfl
  · have hb := half_at S (2 * F + 1) (Int.le_of_lt hn)
    have e : (2 * F + 1) * (2:Int) ^ n.toNat = 2 * ((2 * F + 1) * q) := by rw [hpq]; grind
    have e4 : ∀ Z : Int, 2 * Z * (2 * Z) * U = 4 * (Z * Z * U) := fun Z => by grind
    rw [e, e4] at hb
    have hZ : 0 ≤ (2 * F + 1) * q := Int.mul_nonneg (by omega) (Int.le_of_lt hq0)
    have hman : 2 * R + 1 = (2 * F + h) * (2 * q) + (2 * ρ + 1) := by rw [hRe]; grind
    have hq' : 2 * q = 2 ^ (n + 1 - 1).toNat := by rw [show n + 1 - 1 = n by omega, hpq]
    rw [rsh_n_val (by omega) (by omega) hq' hman hh (by omega) (by omega) hF0]
    show F + _ = F + (if _ then _ else _)
    have x1 : (2 * F + h) * q = (2 * F + 1) * q - (1 - h) * q := by grind
    simp only [hb.1, hb.2]
    rcases hh with rfl | rfl
    · have hZR : R + 1 ≤ (2 * F + 1) * q := by rw [hRe, x1]; omega
      have := Int.mul_le_mul_of_nonneg_right (sq_le_sq (by omega) hZR) (Int.le_of_lt hU)
      rw [if_neg (by omega), if_neg (by omega)]
    · have hZR : (2 * F + 1) * q ≤ R := by rw [hRe]; omega
      have := Int.mul_le_mul_of_nonneg_right (sq_le_sq hZ hZR) (Int.le_of_lt hU)
      rw [if_pos ⟨rfl, .inr (by omega)⟩, if_pos (.inl (by omega))]
  · show -(-(2 * R + 1)).fdiv _ = _ + (if _ then _ else _)
    rw [ceil_pow, eF, hceil, hless]
  · show -(-(2 * R + 1)).fdiv _ = _ + (if _ then _ else _)
    rw [ceil_pow, eF, hceil, hless]
/-- a root from below, with a sign that there is more -/
theorem rn_sticky {wy : Way} (hwy : wy.isFD = false) (hm : 1 ≤ most) (hR : 0 < R) (hw : 0 < whole) (hn : 0 < (intBits R : Int) - most) (h3 : 0 < lessv (R * R) (2 * E) whole power) (h4 : lessv ((R + 1) * (R + 1)) (2 * E) whole power < 0) : rn wy (2 * R + 1) (E - 1) most = lr wy whole power most := by
  obtain ⟨U, X, K, S⟩ := scale_ex R E whole power
  rw [(less_at0 S R).2.2.1] at h3
  rw [(less_at0 S (R + 1)).2.1] at h4
  rw [lr_of hw hm (root_big hm hR hn S (Int.le_of_lt h3) h4)]
  unfold rn
  rw [bits_two hR, show (((intBits R + 1 : Nat) : Int) - most) = (intBits R : Int) - most + 1 by omega, if_pos (by omega), up_sticky hwy hR hn S h3 h4]
  congr 1
  omega
end
end Mine

namespace Mine
open PySem.Builtin.Int (intBits)
/-- the shift of the square root -/
abbrev shfe (prec b : Int) : Int := mx 4 (2 * prec - b + 4) + band (mx 4 (2 * prec - b + 4)) 1
theorem band_par (e : Int) : band e 1 = e % 2 := by
  rw [band_def]
  rcases (show 0 ≤ e ∨ e < 0 by omega) with h | h
  · exact bitAnd_one h
  · unfold Builtin.bitAnd
    rw [decide_eq_false (show ¬ 0 ≤ e by omega), decide_eq_true (show (0:Int) ≤ 1 by decide)]
    dsimp only
    have e1 : Builtin.bitNot e = -e - 1 := rfl
    rw [e1]
    have e2 : (1 : Int).toNat = 1 := rfl
    rw [e2, Nat.and_comm, Nat.and_one_is_mod]
    omega
theorem shfe_facts {prec b : Int} (hp : 1 ≤ prec) (hp2 : prec ≤ 1000) (hb : 0 ≤ b) : 4 ≤ shfe prec b ∧ shfe prec b % 2 = 0 ∧ 2 * prec - b + 4 ≤ shfe prec b ∧ shfe prec b ≤ 2010 := by
  have e := band_par (mx 4 (2 * prec - b + 4))
  have hm : 4 ≤ mx 4 (2 * prec - b + 4) ∧ 2 * prec - b + 4 ≤ mx 4 (2 * prec - b + 4) ∧ mx 4 (2 * prec - b + 4) ≤ 2004 := by
    rw [mx_def]; split <;> omega
  unfold shfe
  rw [e]
  omega
section
variable {wy : Way} {man exp prec m1 e1 b : Int}
theorem shl_eq (a n : Int) : shl a n = 2 ^ n.toNat * a := by rw [shl_def, Int.mul_comm]
theorem sq_side (hp : 1 ≤ prec) (hp2 : prec ≤ 1000) (hm1 : 0 < m1) (hb : b = intBits m1) (hb2 : b ≤ 1001) :
    0 ≤ shfe prec b ∧ (intBits m1 : Int) + shfe prec b ≤ 2 ^ 27 ∧ 0 ≤ shl m1 (shfe prec b) ∧ intBits (shl m1 (shfe prec b)) ≤ 4000 ∧ 0 < isq (shl m1 (shfe prec b)) ∧ (intBits (isq (shl m1 (shfe prec b))) : Int) ≤ 4000 ∧ prec + 2 ≤ (intBits (isq (shl m1 (shfe prec b))) : Int) := by
  have ⟨s1, s2, s3, s4⟩ := shfe_facts hp hp2 (b := b) (by omega)
  have hM : 0 < shl m1 (shfe prec b) := by rw [shl_eq]; exact Int.mul_pos (pow2_pos _) hm1
  have hbM : intBits (shl m1 (shfe prec b)) = intBits m1 + (shfe prec b).toNat := by rw [shl_eq]; exact bits_mul_pow hm1 _
  have hlo := bits_lo hM
  generalize shl m1 (shfe prec b) = M at *
  generalize shfe prec b = S at *
  have ⟨q1, q2⟩ := isq_spec (Int.le_of_lt hM)
  have q0 := isq_nonneg M
  have q3 := bits_isq (Int.le_of_lt hM) (m := 4000) (by omega)
  have hbig : (2:Int) ^ (prec + 1).toNat ≤ isq M := by
    rcases (show (2:Int) ^ (prec + 1).toNat ≤ isq M ∨ isq M + 1 ≤ 2 ^ (prec + 1).toNat by omega) with h | h
    · exact h
    · have a := sq_le_sq (by omega) h
      rw [← Int.pow_add] at a
      have c : (2:Int) ^ ((prec + 1).toNat + (prec + 1).toNat) ≤ 2 ^ (intBits M - 1) := pow2_mono (by omega)
      omega
  have hr : 0 < isq M := Int.lt_of_lt_of_le (pow2_pos _) hbig
  have hbr : prec + 2 ≤ (intBits (isq M) : Int) := by
    have := lt_pow_bits (Int.le_of_lt hr)
    have := pow_lt_of (Int.lt_of_le_of_lt hbig this)
    omega
  exact ⟨by omega, by omega, by omega, by omega, hr, by omega, hbr⟩
theorem sticky_side {r : Int} (hr : 0 < r) (hb : (intBits r : Int) ≤ 4000) : 0 < shl r 1 + 1 ∧ (intBits (shl r 1 + 1) : Int) ≤ 100000 ∧ (intBits r : Int) + 1 ≤ 2 ^ 27 := by
  have e : shl r 1 = 2 * r := by rw [shl_eq]; rfl
  rw [e, bits_two hr]
  omega
/-- the number and the square root's argument at one scale -/
theorem sq_scale {S E M : Int} (hS : 0 ≤ S) (hE : 2 * E = e1 - S) (hle : e1 ≤ exp) (hv : man * 2 ^ (exp - e1).toNat = m1) (hM : M = 2 ^ S.toNat * m1) (a : Int) :
    (0 ≤ lessv a (2 * E) man exp ↔ a ≤ M) ∧ (lessv a (2 * E) man exp < 0 ↔ M < a) ∧ (0 < lessv a (2 * E) man exp ↔ a < M) ∧ (lessv a (2 * E) man exp = 0 ↔ a = M) := by
  have h := less_sign (one := a) (two := man) (low := 2 * E) (high := exp) (K := 2 * E) (Int.le_refl _) (by omega)
  have e1' : (2 * E - 2 * E).toNat = 0 := by omega
  have e2 : man * 2 ^ (exp - 2 * E).toNat = M := by
    rw [hM, ← hv, show (exp - 2 * E).toNat = (exp - e1).toNat + S.toNat by omega, Int.pow_add]
    grind
  rw [e1', e2] at h
  simpa using h
variable (hp : 1 ≤ prec) (hp2 : prec ≤ 1000) (hman : 0 < man) (hm1 : 0 < m1) (hb : b = intBits m1) (hb2 : b ≤ 1001) (he : e1 % 2 = 0) (hle : e1 ≤ exp) (hv : man * 2 ^ (exp - e1).toNat = m1)
include hp hp2 hman hm1 hb hb2 he hle hv in
theorem sq_all : (wy.isFD = true → rn wy (isq (shl m1 (shfe prec b))) ((e1 - shfe prec b).fdiv 2) prec = lr wy man exp prec) ∧
    (wy.isFD = false → shl m1 (shfe prec b) - isq (shl m1 (shfe prec b)) * isq (shl m1 (shfe prec b)) ≠ 0 → rn wy (shl (isq (shl m1 (shfe prec b))) 1 + 1) ((e1 - (shfe prec b + 2)).fdiv 2) prec = lr wy man exp prec) ∧
    (shl m1 (shfe prec b) - isq (shl m1 (shfe prec b)) * isq (shl m1 (shfe prec b)) = 0 → rn wy (isq (shl m1 (shfe prec b))) ((e1 - shfe prec b).fdiv 2) prec = lr wy man exp prec) := by
  have ⟨s1, s2, s3, s4⟩ := shfe_facts hp hp2 (b := b) (by omega)
  have ⟨t1, t2, t3, t4, t5, t6, t7⟩ := sq_side hp hp2 hm1 hb hb2
  have hMe := shl_eq m1 (shfe prec b)
  generalize shl m1 (shfe prec b) = M at *
  generalize shfe prec b = S at *
  have ⟨q1, q2⟩ := isq_spec t3
  have ⟨f1, f2, f3, _⟩ := fdiv_fmod_facts (e1 - S) 2
  have f3 := f3 (by decide)
  have hE : 2 * (e1 - S).fdiv 2 = e1 - S := by omega
  have hE2 : (e1 - (S + 2)).fdiv 2 = (e1 - S).fdiv 2 - 1 := by
    rw [Int.fdiv_eq_ediv_of_nonneg _ (by decide), Int.fdiv_eq_ediv_of_nonneg _ (by decide)]; omega
  have sc := sq_scale (man := man) (exp := exp) (e1 := e1) (m1 := m1) (by omega) hE hle hv hMe
  have h2 : shl (isq M) 1 + 1 = 2 * isq M + 1 := by rw [shl_eq]; rfl
  refine ⟨fun hwy => ?_, fun hwy hne => ?_, fun heq => ?_⟩
  · exact rn_down hwy hp t5 hman (by omega) ((sc _).1.mpr q1) ((sc _).2.1.mpr q2)
  · rw [h2, hE2]
    exact rn_sticky hwy hp t5 hman (by omega) ((sc _).2.2.1.mpr (by omega)) ((sc _).2.1.mpr q2)
  · exact rn_exact wy hp t5 hman ((sc _).2.2.2.mpr (by omega))
end
theorem sq_one {wy : Way} {man exp prec : Int} (hp : 1 ≤ prec) (h1 : man = 1) (he : band exp 1 = 0) : rn wy man (exp.fdiv 2) prec = lr wy man exp prec := by
  subst h1
  rw [band_par] at he
  have e : 2 * exp.fdiv 2 = exp := by rw [Int.fdiv_eq_ediv_of_nonneg _ (by decide)]; omega
  refine rn_exact wy hp (by decide) (by decide) ?_
  have h := less_sign (one := 1 * 1) (two := 1) (low := 2 * exp.fdiv 2) (high := exp) (K := exp) (by omega) (Int.le_refl _)
  rw [h.2.2.2, e]
  rfl
theorem is3_eq {x y : Int × Int × Int} (h : x = y) : Is3 y x.1 x.2.1 x.2.2 := by rw [h]; exact ⟨rfl, rfl, rfl⟩
/-- an odd exponent: the number is doubled -/
theorem odd_facts {man exp : Int} (hm : 0 < man) (ho : band exp 1 ≠ 0) : 0 < shl man 1 ∧ (intBits man : Int) + 1 = intBits (shl man 1) ∧ (exp - 1) % 2 = 0 ∧ exp - 1 ≤ exp ∧ man * 2 ^ (exp - (exp - 1)).toNat = shl man 1 := by
  rw [band_par] at ho
  have hb := bits_mul_pow hm 1
  have e : shl man 1 = 2 ^ 1 * man := by rw [shl_eq]; rfl
  refine ⟨by rw [e]; omega, by rw [e, hb]; omega, by omega, by omega, ?_⟩
  rw [show (exp - (exp - 1)).toNat = 1 by omega, e]; omega
theorem even_facts {man exp : Int} (ho : band exp 1 = 0) : exp % 2 = 0 ∧ man * 2 ^ (exp - exp).toNat = man := by
  rw [band_par] at ho
  refine ⟨ho, ?_⟩
  rw [show (exp - exp).toNat = 0 by omega]; simp
end Mine

section
local macro_rules | `(tactic| walk_at "none 0") => `(tactic| fail)
local macro_rules | `(tactic| walk_at "none 1") => `(tactic| fail)
local macro_rules | `(tactic| walk_at "none 2") => `(tactic| fail)
local macro_rules | `(tactic| walk_at "none 3") => `(tactic| fail)
local macro_rules | `(tactic| walk_at "binaryOp LShift int int") => `(tactic| (refine PyProof.Rows.lshift_int ?_ ?_ ?_; rotate_left 2))
local macro_rules | `(tactic| walk_at "binaryOp FloorDiv int int") => `(tactic| (refine PyProof.Rows.floordiv_int (Mine.ninv_pos (by assumption)) ?_ (Or.inl (PyProof.noPylong_of_log2 (Mine.ninv_log (by assumption))))))
local macro_rules | `(tactic| walk_at "binaryOp Mult int int") => `(tactic| (refine PyProof.Rows.mul_int ?_ ?_; (try dsimp only)))
local macro_rules | `(tactic| walk_at "binaryOp Pow int int") => `(tactic| (refine PyProof.Rows.pow_int ?_ ?_ ?_; rotate_left 2; (try dsimp only)))
local macro_rules | `(tactic| walk_at "execs cons") => `(tactic| (with_reducible (refine Mine.gen_toks ?_; intro tk; refine wpAny_execs_cons ?_); (try dsimp only)))
local macro_rules | `(tactic| walk_at "execs nil") => `(tactic| (with_reducible (refine Mine.gen_toks ?_; intro tk; refine wpAny_execs_nil ?_); (try dsimp only)))
local macro_rules | `(tactic| walk_at "unpackItems ref") => `(tactic| (k_here; k_dflt (refine' Mine.unpack_calm ?kA ?kC ?k1 ?k2 ?k3 ?k5 ?_; (case kA => exact rfl); (case k1 => k_asm); (case k2 => k_asm); (case kC => first | exact Mine.CalmN.at (by assumption) (by k_asm) (by first | exact fun _ h => h | exact fun _ h => .tail _ h | exact fun _ h => .tail _ (.tail _ h) | exact fun _ h => .tail _ (.tail _ (.tail _ h)) | exact fun _ h => .tail _ (.tail _ (.tail _ (.tail _ h))) | exact fun _ h => .tail _ (.tail _ (.tail _ (.tail _ (.tail _ h)))) | exact fun _ h => .tail _ (.tail _ (.tail _ (.tail _ (.tail _ (.tail _ h))))) | exact fun _ h => .tail _ (.tail _ (.tail _ (.tail _ (.tail _ (.tail _ (.tail _ h)))))) | exact fun _ h => .tail _ (.tail _ (.tail _ (.tail _ (.tail _ (.tail _ (.tail _ (.tail _ h))))))) | exact fun _ h => .tail _ (.tail _ (.tail _ (.tail _ (.tail _ (.tail _ (.tail _ (.tail _ (.tail _ h)))))))) | exact fun _ h => .tail _ (.tail _ (.tail _ (.tail _ (.tail _ (.tail _ (.tail _ (.tail _ (.tail _ (.tail _ h))))))))) | exact fun _ h => .tail _ (.tail _ (.tail _ (.tail _ (.tail _ (.tail _ (.tail _ (.tail _ (.tail _ (.tail _ (.tail _ h)))))))))) | exact fun _ h => .tail _ (.tail _ (.tail _ (.tail _ (.tail _ (.tail _ (.tail _ (.tail _ (.tail _ (.tail _ (.tail _ (.tail _ h))))))))))) | exact fun _ h => .tail _ (.tail _ (.tail _ (.tail _ (.tail _ (.tail _ (.tail _ (.tail _ (.tail _ (.tail _ (.tail _ (.tail _ (.tail _ h)))))))))))) | exact fun _ h => .tail _ (.tail _ (.tail _ (.tail _ (.tail _ (.tail _ (.tail _ (.tail _ (.tail _ (.tail _ (.tail _ (.tail _ (.tail _ (.tail _ h))))))))))))) | exact fun _ h => .tail _ (.tail _ (.tail _ (.tail _ (.tail _ (.tail _ (.tail _ (.tail _ (.tail _ (.tail _ (.tail _ (.tail _ (.tail _ (.tail _ (.tail _ h))))))))))))))) | exact Or.inl rfl); (case k3 => kun_tup); (case k5 => exact rfl); k_whole); intro h' F' N'; (try k_sweep)))
local macro_rules | `(tactic| walk_at "assign Tuple") => `(tactic| (k_here; (with_reducible show wpAny _ _ (assign (Expr.Tuple _ _ _) _ (Value.ref _)) _ _ _); k_dflt (refine' Mine.assign_calm ?kA ?kC ?k1 ?k2 ?k3 ?k5 ?k6 ?_; (case kA => exact rfl); (case k1 => k_asm); (case k2 => k_asm); (case kC => first | exact Mine.CalmN.at (by assumption) (by k_asm) (by first | exact fun _ h => h | exact fun _ h => .tail _ h | exact fun _ h => .tail _ (.tail _ h) | exact fun _ h => .tail _ (.tail _ (.tail _ h)) | exact fun _ h => .tail _ (.tail _ (.tail _ (.tail _ h))) | exact fun _ h => .tail _ (.tail _ (.tail _ (.tail _ (.tail _ h)))) | exact fun _ h => .tail _ (.tail _ (.tail _ (.tail _ (.tail _ (.tail _ h))))) | exact fun _ h => .tail _ (.tail _ (.tail _ (.tail _ (.tail _ (.tail _ (.tail _ h)))))) | exact fun _ h => .tail _ (.tail _ (.tail _ (.tail _ (.tail _ (.tail _ (.tail _ (.tail _ h))))))) | exact fun _ h => .tail _ (.tail _ (.tail _ (.tail _ (.tail _ (.tail _ (.tail _ (.tail _ (.tail _ h)))))))) | exact fun _ h => .tail _ (.tail _ (.tail _ (.tail _ (.tail _ (.tail _ (.tail _ (.tail _ (.tail _ (.tail _ h))))))))) | exact fun _ h => .tail _ (.tail _ (.tail _ (.tail _ (.tail _ (.tail _ (.tail _ (.tail _ (.tail _ (.tail _ (.tail _ h)))))))))) | exact fun _ h => .tail _ (.tail _ (.tail _ (.tail _ (.tail _ (.tail _ (.tail _ (.tail _ (.tail _ (.tail _ (.tail _ (.tail _ h))))))))))) | exact fun _ h => .tail _ (.tail _ (.tail _ (.tail _ (.tail _ (.tail _ (.tail _ (.tail _ (.tail _ (.tail _ (.tail _ (.tail _ (.tail _ h)))))))))))) | exact fun _ h => .tail _ (.tail _ (.tail _ (.tail _ (.tail _ (.tail _ (.tail _ (.tail _ (.tail _ (.tail _ (.tail _ (.tail _ (.tail _ (.tail _ h))))))))))))) | exact fun _ h => .tail _ (.tail _ (.tail _ (.tail _ (.tail _ (.tail _ (.tail _ (.tail _ (.tail _ (.tail _ (.tail _ (.tail _ (.tail _ (.tail _ (.tail _ h))))))))))))))) | exact Or.inl rfl); (case k3 => kun_tup); (case k5 => exact rfl); (case k6 => exact rfl); k_whole); intro h' F' N'; (try k_sweep)))
local macro_rules | `(tactic| walk_at "call builtin:min") => `(tactic| (k_here; (with_reducible show wpAny _ _ (call (Value.builtin _) [Value.int _ _, Value.int _ _]) _ _ _); k_dflt (refine' Mine.min_calm ?kA ?kC ?k1 ?k2 ?_; (case kA => exact rfl); (case k1 => k_asm); (case k2 => k_asm); (case kC => first | exact Mine.CalmN.at (by assumption) (by k_asm) (by first | exact fun _ h => h | exact fun _ h => .tail _ h | exact fun _ h => .tail _ (.tail _ h) | exact fun _ h => .tail _ (.tail _ (.tail _ h)) | exact fun _ h => .tail _ (.tail _ (.tail _ (.tail _ h))) | exact fun _ h => .tail _ (.tail _ (.tail _ (.tail _ (.tail _ h)))) | exact fun _ h => .tail _ (.tail _ (.tail _ (.tail _ (.tail _ (.tail _ h))))) | exact fun _ h => .tail _ (.tail _ (.tail _ (.tail _ (.tail _ (.tail _ (.tail _ h)))))) | exact fun _ h => .tail _ (.tail _ (.tail _ (.tail _ (.tail _ (.tail _ (.tail _ (.tail _ h))))))) | exact fun _ h => .tail _ (.tail _ (.tail _ (.tail _ (.tail _ (.tail _ (.tail _ (.tail _ (.tail _ h)))))))) | exact fun _ h => .tail _ (.tail _ (.tail _ (.tail _ (.tail _ (.tail _ (.tail _ (.tail _ (.tail _ (.tail _ h))))))))) | exact fun _ h => .tail _ (.tail _ (.tail _ (.tail _ (.tail _ (.tail _ (.tail _ (.tail _ (.tail _ (.tail _ (.tail _ h)))))))))) | exact fun _ h => .tail _ (.tail _ (.tail _ (.tail _ (.tail _ (.tail _ (.tail _ (.tail _ (.tail _ (.tail _ (.tail _ (.tail _ h))))))))))) | exact fun _ h => .tail _ (.tail _ (.tail _ (.tail _ (.tail _ (.tail _ (.tail _ (.tail _ (.tail _ (.tail _ (.tail _ (.tail _ (.tail _ h)))))))))))) | exact fun _ h => .tail _ (.tail _ (.tail _ (.tail _ (.tail _ (.tail _ (.tail _ (.tail _ (.tail _ (.tail _ (.tail _ (.tail _ (.tail _ (.tail _ h))))))))))))) | exact fun _ h => .tail _ (.tail _ (.tail _ (.tail _ (.tail _ (.tail _ (.tail _ (.tail _ (.tail _ (.tail _ (.tail _ (.tail _ (.tail _ (.tail _ (.tail _ h))))))))))))))) | exact Or.inl rfl); k_whole); intro h9 tk9 F9 N9; (try dsimp only)))
local macro_rules | `(tactic| walk_at "call builtin:max") => `(tactic| (k_here; (with_reducible show wpAny _ _ (call (Value.builtin _) [Value.int _ _, Value.int _ _]) _ _ _); k_dflt (refine' Mine.max_wc ?kA ?kC ?k1 ?k2 ?_; (case kA => exact rfl); (case k1 => k_asm); (case k2 => k_asm); (case kC => first | exact Mine.CalmN.at (by assumption) (by k_asm) (by first | exact fun _ h => h | exact fun _ h => .tail _ h | exact fun _ h => .tail _ (.tail _ h) | exact fun _ h => .tail _ (.tail _ (.tail _ h)) | exact fun _ h => .tail _ (.tail _ (.tail _ (.tail _ h))) | exact fun _ h => .tail _ (.tail _ (.tail _ (.tail _ (.tail _ h)))) | exact fun _ h => .tail _ (.tail _ (.tail _ (.tail _ (.tail _ (.tail _ h))))) | exact fun _ h => .tail _ (.tail _ (.tail _ (.tail _ (.tail _ (.tail _ (.tail _ h)))))) | exact fun _ h => .tail _ (.tail _ (.tail _ (.tail _ (.tail _ (.tail _ (.tail _ (.tail _ h))))))) | exact fun _ h => .tail _ (.tail _ (.tail _ (.tail _ (.tail _ (.tail _ (.tail _ (.tail _ (.tail _ h)))))))) | exact fun _ h => .tail _ (.tail _ (.tail _ (.tail _ (.tail _ (.tail _ (.tail _ (.tail _ (.tail _ (.tail _ h))))))))) | exact fun _ h => .tail _ (.tail _ (.tail _ (.tail _ (.tail _ (.tail _ (.tail _ (.tail _ (.tail _ (.tail _ (.tail _ h)))))))))) | exact fun _ h => .tail _ (.tail _ (.tail _ (.tail _ (.tail _ (.tail _ (.tail _ (.tail _ (.tail _ (.tail _ (.tail _ (.tail _ h))))))))))) | exact fun _ h => .tail _ (.tail _ (.tail _ (.tail _ (.tail _ (.tail _ (.tail _ (.tail _ (.tail _ (.tail _ (.tail _ (.tail _ (.tail _ h)))))))))))) | exact fun _ h => .tail _ (.tail _ (.tail _ (.tail _ (.tail _ (.tail _ (.tail _ (.tail _ (.tail _ (.tail _ (.tail _ (.tail _ (.tail _ (.tail _ h))))))))))))) | exact fun _ h => .tail _ (.tail _ (.tail _ (.tail _ (.tail _ (.tail _ (.tail _ (.tail _ (.tail _ (.tail _ (.tail _ (.tail _ (.tail _ (.tail _ (.tail _ h))))))))))))))) | exact Or.inl rfl); k_whole); intro v9 h9 tk9 F9 N9; (try dsimp only)))
local macro_rules | `(tactic| walk_at "exec Assert") => `(tactic| (refine Mine.assert_holds ?_))

local macro_rules | `(tactic| walk_at "call ref") => `(tactic| (k_here; (with_reducible show wpAny _ _ (call (Value.ref 78) _) _ _ _); k_dflt (refine' Mine.Ctr.use (Mine.c_normalize _ _ _ _ _ _ _ _ _ _ _ _ ?_ ?_ ?_) ?k1 ?k2 ?k3 ?k4 ?k5 ?k6 ?k7 ?k8 ?k9 ?_; (case k1 => k_asm); (case k2 => k_asm); (case k3 => k_asm); (case k4 => k_asm); (case k5 => k_asm); (case k9 => first | assumption | exact Mine.CalmN.sub (by assumption) (by first | exact fun _ h => h | exact fun _ h => .tail _ h | exact fun _ h => .tail _ (.tail _ h) | exact fun _ h => .tail _ (.tail _ (.tail _ h)) | exact fun _ h => .tail _ (.tail _ (.tail _ (.tail _ h))) | exact fun _ h => .tail _ (.tail _ (.tail _ (.tail _ (.tail _ h)))) | exact fun _ h => .tail _ (.tail _ (.tail _ (.tail _ (.tail _ (.tail _ h))))) | exact fun _ h => .tail _ (.tail _ (.tail _ (.tail _ (.tail _ (.tail _ (.tail _ h)))))) | exact fun _ h => .tail _ (.tail _ (.tail _ (.tail _ (.tail _ (.tail _ (.tail _ (.tail _ h))))))) | exact fun _ h => .tail _ (.tail _ (.tail _ (.tail _ (.tail _ (.tail _ (.tail _ (.tail _ (.tail _ h)))))))) | exact fun _ h => .tail _ (.tail _ (.tail _ (.tail _ (.tail _ (.tail _ (.tail _ (.tail _ (.tail _ (.tail _ h))))))))) | exact fun _ h => .tail _ (.tail _ (.tail _ (.tail _ (.tail _ (.tail _ (.tail _ (.tail _ (.tail _ (.tail _ (.tail _ h)))))))))) | exact fun _ h => .tail _ (.tail _ (.tail _ (.tail _ (.tail _ (.tail _ (.tail _ (.tail _ (.tail _ (.tail _ (.tail _ (.tail _ h))))))))))) | exact fun _ h => .tail _ (.tail _ (.tail _ (.tail _ (.tail _ (.tail _ (.tail _ (.tail _ (.tail _ (.tail _ (.tail _ (.tail _ (.tail _ h)))))))))))) | exact fun _ h => .tail _ (.tail _ (.tail _ (.tail _ (.tail _ (.tail _ (.tail _ (.tail _ (.tail _ (.tail _ (.tail _ (.tail _ (.tail _ (.tail _ h))))))))))))) | exact fun _ h => .tail _ (.tail _ (.tail _ (.tail _ (.tail _ (.tail _ (.tail _ (.tail _ (.tail _ (.tail _ (.tail _ (.tail _ (.tail _ (.tail _ (.tail _ h))))))))))))))) | exact Or.inl rfl); (case k6 => first | exact rfl | assumption); (case k7 => first | ((try dsimp only [Mine.ktrX]); (try simp only [depth_under_make, depth_under_kw, depth_in1, depth_deeper, depth_caller]); (try dsimp only [Mine.ktrX]); omega) | ((try dsimp only [Mine.ktrX] at *); ktr_room)); (case k8 => first | ((try dsimp only [Mine.ktrX]); (try simp only [units_in1, units_deeper, Around.mark_units, units_caller]); (try dsimp only [Mine.ktrX]); omega) | ((try dsimp only [Mine.ktrX] at *); ktr_units)); (first | assumption | k_mem | omega | rotate_left); (first | assumption | k_mem | omega | rotate_left); (first | assumption | k_mem | omega | rotate_left)); intro D9 t9 u9 v9 x9 h9 tk9 F9 N9; (try dsimp only); (try k_fold)))
local macro_rules | `(tactic| walk_at "call ref") => `(tactic| (k_here; (with_reducible show wpAny _ _ (call (Value.ref 78) _) _ _ _); k_dflt (refine' Mine.Ctr.use (Mine.c_normalize_d _ _ _ _ _ _ _ _ _ _ _ ?_ ?_ ?_) ?k1 ?k2 ?k3 ?k4 ?k5 ?k6 ?k7 ?k8 ?k9 ?_; (case k1 => k_asm); (case k2 => k_asm); (case k3 => k_asm); (case k4 => k_asm); (case k5 => k_asm); (case k9 => first | assumption | exact Mine.CalmN.sub (by assumption) (by first | exact fun _ h => h | exact fun _ h => .tail _ h | exact fun _ h => .tail _ (.tail _ h) | exact fun _ h => .tail _ (.tail _ (.tail _ h)) | exact fun _ h => .tail _ (.tail _ (.tail _ (.tail _ h))) | exact fun _ h => .tail _ (.tail _ (.tail _ (.tail _ (.tail _ h)))) | exact fun _ h => .tail _ (.tail _ (.tail _ (.tail _ (.tail _ (.tail _ h))))) | exact fun _ h => .tail _ (.tail _ (.tail _ (.tail _ (.tail _ (.tail _ (.tail _ h)))))) | exact fun _ h => .tail _ (.tail _ (.tail _ (.tail _ (.tail _ (.tail _ (.tail _ (.tail _ h))))))) | exact fun _ h => .tail _ (.tail _ (.tail _ (.tail _ (.tail _ (.tail _ (.tail _ (.tail _ (.tail _ h)))))))) | exact fun _ h => .tail _ (.tail _ (.tail _ (.tail _ (.tail _ (.tail _ (.tail _ (.tail _ (.tail _ (.tail _ h))))))))) | exact fun _ h => .tail _ (.tail _ (.tail _ (.tail _ (.tail _ (.tail _ (.tail _ (.tail _ (.tail _ (.tail _ (.tail _ h)))))))))) | exact fun _ h => .tail _ (.tail _ (.tail _ (.tail _ (.tail _ (.tail _ (.tail _ (.tail _ (.tail _ (.tail _ (.tail _ (.tail _ h))))))))))) | exact fun _ h => .tail _ (.tail _ (.tail _ (.tail _ (.tail _ (.tail _ (.tail _ (.tail _ (.tail _ (.tail _ (.tail _ (.tail _ (.tail _ h)))))))))))) | exact fun _ h => .tail _ (.tail _ (.tail _ (.tail _ (.tail _ (.tail _ (.tail _ (.tail _ (.tail _ (.tail _ (.tail _ (.tail _ (.tail _ (.tail _ h))))))))))))) | exact fun _ h => .tail _ (.tail _ (.tail _ (.tail _ (.tail _ (.tail _ (.tail _ (.tail _ (.tail _ (.tail _ (.tail _ (.tail _ (.tail _ (.tail _ (.tail _ h))))))))))))))) | exact Or.inl rfl); (case k6 => first | exact rfl | assumption); (case k7 => first | ((try dsimp only [Mine.ktrX]); (try simp only [depth_under_make, depth_under_kw, depth_in1, depth_deeper, depth_caller]); (try dsimp only [Mine.ktrX]); omega) | ((try dsimp only [Mine.ktrX] at *); ktr_room)); (case k8 => first | ((try dsimp only [Mine.ktrX]); (try simp only [units_in1, units_deeper, Around.mark_units, units_caller]); (try dsimp only [Mine.ktrX]); omega) | ((try dsimp only [Mine.ktrX] at *); ktr_units)); (first | assumption | k_mem | omega | rotate_left); (first | assumption | k_mem | omega | rotate_left); (first | assumption | k_mem | omega | rotate_left)); intro D9 t9 u9 v9 x9 h9 tk9 F9 N9; (try dsimp only); (try k_fold)))
local macro_rules | `(tactic| walk_at "call ref") => `(tactic| (k_here; (with_reducible show wpAny _ _ (call (Value.ref 78) _) _ _ _); k_dflt (refine' Mine.Ctr.use (Mine.c_normalize0 _ _ _ _ _ _ _ _ _ _ ) ?k1 ?k2 ?k3 ?k4 ?k5 ?k6 ?k7 ?k8 ?k9 ?_; (case k1 => k_asm); (case k2 => k_asm); (case k3 => k_asm); (case k4 => k_asm); (case k5 => k_asm); (case k9 => first | assumption | exact Mine.CalmN.sub (by assumption) (by first | exact fun _ h => h | exact fun _ h => .tail _ h | exact fun _ h => .tail _ (.tail _ h) | exact fun _ h => .tail _ (.tail _ (.tail _ h)) | exact fun _ h => .tail _ (.tail _ (.tail _ (.tail _ h))) | exact fun _ h => .tail _ (.tail _ (.tail _ (.tail _ (.tail _ h)))) | exact fun _ h => .tail _ (.tail _ (.tail _ (.tail _ (.tail _ (.tail _ h))))) | exact fun _ h => .tail _ (.tail _ (.tail _ (.tail _ (.tail _ (.tail _ (.tail _ h)))))) | exact fun _ h => .tail _ (.tail _ (.tail _ (.tail _ (.tail _ (.tail _ (.tail _ (.tail _ h))))))) | exact fun _ h => .tail _ (.tail _ (.tail _ (.tail _ (.tail _ (.tail _ (.tail _ (.tail _ (.tail _ h)))))))) | exact fun _ h => .tail _ (.tail _ (.tail _ (.tail _ (.tail _ (.tail _ (.tail _ (.tail _ (.tail _ (.tail _ h))))))))) | exact fun _ h => .tail _ (.tail _ (.tail _ (.tail _ (.tail _ (.tail _ (.tail _ (.tail _ (.tail _ (.tail _ (.tail _ h)))))))))) | exact fun _ h => .tail _ (.tail _ (.tail _ (.tail _ (.tail _ (.tail _ (.tail _ (.tail _ (.tail _ (.tail _ (.tail _ (.tail _ h))))))))))) | exact fun _ h => .tail _ (.tail _ (.tail _ (.tail _ (.tail _ (.tail _ (.tail _ (.tail _ (.tail _ (.tail _ (.tail _ (.tail _ (.tail _ h)))))))))))) | exact fun _ h => .tail _ (.tail _ (.tail _ (.tail _ (.tail _ (.tail _ (.tail _ (.tail _ (.tail _ (.tail _ (.tail _ (.tail _ (.tail _ (.tail _ h))))))))))))) | exact fun _ h => .tail _ (.tail _ (.tail _ (.tail _ (.tail _ (.tail _ (.tail _ (.tail _ (.tail _ (.tail _ (.tail _ (.tail _ (.tail _ (.tail _ (.tail _ h))))))))))))))) | exact Or.inl rfl); (case k6 => first | exact rfl | assumption); (case k7 => first | ((try dsimp only [Mine.ktrX]); (try simp only [depth_under_make, depth_under_kw, depth_in1, depth_deeper, depth_caller]); (try dsimp only [Mine.ktrX]); omega) | ((try dsimp only [Mine.ktrX] at *); ktr_room)); (case k8 => first | ((try dsimp only [Mine.ktrX]); (try simp only [units_in1, units_deeper, Around.mark_units, units_caller]); (try dsimp only [Mine.ktrX]); omega) | ((try dsimp only [Mine.ktrX] at *); ktr_units))); intro h9 tk9 F9 N9; (try dsimp only); (try k_fold)))

local macro_rules | `(tactic| walk_at "call ref") => `(tactic| (k_here; (with_reducible show wpAny _ _ (call (Value.ref 35) _) _ _ _); k_dflt (refine' Mine.Ctr.use (Mine.c_sqrtrem _ _ _ _ ?_ ?_) ?k1 ?k2 ?k3 ?k4 ?k5 ?k6 ?k7 ?k8 ?k9 ?_; (case k1 => k_asm); (case k2 => k_asm); (case k3 => k_asm); (case k4 => k_asm); (case k5 => k_asm); (case k9 => first | assumption | exact Mine.CalmN.sub (by assumption) (by first | exact fun _ h => h | exact fun _ h => .tail _ h | exact fun _ h => .tail _ (.tail _ h) | exact fun _ h => .tail _ (.tail _ (.tail _ h)) | exact fun _ h => .tail _ (.tail _ (.tail _ (.tail _ h))) | exact fun _ h => .tail _ (.tail _ (.tail _ (.tail _ (.tail _ h)))) | exact fun _ h => .tail _ (.tail _ (.tail _ (.tail _ (.tail _ (.tail _ h))))) | exact fun _ h => .tail _ (.tail _ (.tail _ (.tail _ (.tail _ (.tail _ (.tail _ h)))))) | exact fun _ h => .tail _ (.tail _ (.tail _ (.tail _ (.tail _ (.tail _ (.tail _ (.tail _ h))))))) | exact fun _ h => .tail _ (.tail _ (.tail _ (.tail _ (.tail _ (.tail _ (.tail _ (.tail _ (.tail _ h)))))))) | exact fun _ h => .tail _ (.tail _ (.tail _ (.tail _ (.tail _ (.tail _ (.tail _ (.tail _ (.tail _ (.tail _ h))))))))) | exact fun _ h => .tail _ (.tail _ (.tail _ (.tail _ (.tail _ (.tail _ (.tail _ (.tail _ (.tail _ (.tail _ (.tail _ h)))))))))) | exact fun _ h => .tail _ (.tail _ (.tail _ (.tail _ (.tail _ (.tail _ (.tail _ (.tail _ (.tail _ (.tail _ (.tail _ (.tail _ h))))))))))) | exact fun _ h => .tail _ (.tail _ (.tail _ (.tail _ (.tail _ (.tail _ (.tail _ (.tail _ (.tail _ (.tail _ (.tail _ (.tail _ (.tail _ h)))))))))))) | exact fun _ h => .tail _ (.tail _ (.tail _ (.tail _ (.tail _ (.tail _ (.tail _ (.tail _ (.tail _ (.tail _ (.tail _ (.tail _ (.tail _ (.tail _ h))))))))))))) | exact fun _ h => .tail _ (.tail _ (.tail _ (.tail _ (.tail _ (.tail _ (.tail _ (.tail _ (.tail _ (.tail _ (.tail _ (.tail _ (.tail _ (.tail _ (.tail _ h))))))))))))))) | exact Or.inl rfl); (case k6 => first | exact rfl | assumption); (case k7 => first | ((try dsimp only [Mine.ktrX]); (try simp only [depth_under_make, depth_under_kw, depth_in1, depth_deeper, depth_caller]); (try dsimp only [Mine.ktrX]); omega) | ((try dsimp only [Mine.ktrX] at *); ktr_room)); (case k8 => first | ((try dsimp only [Mine.ktrX]); (try simp only [units_in1, units_deeper, Around.mark_units, units_caller]); (try dsimp only [Mine.ktrX]); omega) | ((try dsimp only [Mine.ktrX] at *); ktr_units)); (first | assumption | k_mem | omega | rotate_left); (first | assumption | k_mem | omega | rotate_left)); intro D9 t9 u9 h9 tk9 F9 N9; (try dsimp only); (try k_fold)))
local macro_rules | `(tactic| walk_at "call ref") => `(tactic| (k_here; (with_reducible show wpAny _ _ (call (Value.ref 42) _) _ _ _); k_dflt (refine' Mine.Ctr.use (Mine.c_isqrt _ _ _ _ ?_ ?_) ?k1 ?k2 ?k3 ?k4 ?k5 ?k6 ?k7 ?k8 ?k9 ?_; (case k1 => k_asm); (case k2 => k_asm); (case k3 => k_asm); (case k4 => k_asm); (case k5 => k_asm); (case k9 => first | assumption | exact Mine.CalmN.sub (by assumption) (by first | exact fun _ h => h | exact fun _ h => .tail _ h | exact fun _ h => .tail _ (.tail _ h) | exact fun _ h => .tail _ (.tail _ (.tail _ h)) | exact fun _ h => .tail _ (.tail _ (.tail _ (.tail _ h))) | exact fun _ h => .tail _ (.tail _ (.tail _ (.tail _ (.tail _ h)))) | exact fun _ h => .tail _ (.tail _ (.tail _ (.tail _ (.tail _ (.tail _ h))))) | exact fun _ h => .tail _ (.tail _ (.tail _ (.tail _ (.tail _ (.tail _ (.tail _ h)))))) | exact fun _ h => .tail _ (.tail _ (.tail _ (.tail _ (.tail _ (.tail _ (.tail _ (.tail _ h))))))) | exact fun _ h => .tail _ (.tail _ (.tail _ (.tail _ (.tail _ (.tail _ (.tail _ (.tail _ (.tail _ h)))))))) | exact fun _ h => .tail _ (.tail _ (.tail _ (.tail _ (.tail _ (.tail _ (.tail _ (.tail _ (.tail _ (.tail _ h))))))))) | exact fun _ h => .tail _ (.tail _ (.tail _ (.tail _ (.tail _ (.tail _ (.tail _ (.tail _ (.tail _ (.tail _ (.tail _ h)))))))))) | exact fun _ h => .tail _ (.tail _ (.tail _ (.tail _ (.tail _ (.tail _ (.tail _ (.tail _ (.tail _ (.tail _ (.tail _ (.tail _ h))))))))))) | exact fun _ h => .tail _ (.tail _ (.tail _ (.tail _ (.tail _ (.tail _ (.tail _ (.tail _ (.tail _ (.tail _ (.tail _ (.tail _ (.tail _ h)))))))))))) | exact fun _ h => .tail _ (.tail _ (.tail _ (.tail _ (.tail _ (.tail _ (.tail _ (.tail _ (.tail _ (.tail _ (.tail _ (.tail _ (.tail _ (.tail _ h))))))))))))) | exact fun _ h => .tail _ (.tail _ (.tail _ (.tail _ (.tail _ (.tail _ (.tail _ (.tail _ (.tail _ (.tail _ (.tail _ (.tail _ (.tail _ (.tail _ (.tail _ h))))))))))))))) | exact Or.inl rfl); (case k6 => first | exact rfl | assumption); (case k7 => first | ((try dsimp only [Mine.ktrX]); (try simp only [depth_under_make, depth_under_kw, depth_in1, depth_deeper, depth_caller]); (try dsimp only [Mine.ktrX]); omega) | ((try dsimp only [Mine.ktrX] at *); ktr_room)); (case k8 => first | ((try dsimp only [Mine.ktrX]); (try simp only [units_in1, units_deeper, Around.mark_units, units_caller]); (try dsimp only [Mine.ktrX]); omega) | ((try dsimp only [Mine.ktrX] at *); ktr_units)); (first | assumption | k_mem | omega | rotate_left); (first | assumption | k_mem | omega | rotate_left)); intro t9 h9 tk9 F9 N9; (try dsimp only); (try k_fold)))
local macro_rules | `(tactic| walk_at "call ref") => `(tactic| (k_here; (with_reducible show wpAny _ _ (call (Value.ref 86) _) _ _ _); k_dflt (refine' Mine.Ctr.use (Mine.c_fme4 _ _ _ _ _ _ _ _ _ _ ?_ ?_ ?_) ?k1 ?k2 ?k3 ?k4 ?k5 ?k6 ?k7 ?k8 ?k9 ?_; (case k1 => k_asm); (case k2 => k_asm); (case k3 => k_asm); (case k4 => k_asm); (case k5 => k_asm); (case k9 => first | assumption | exact Mine.CalmN.sub (by assumption) (by first | exact fun _ h => h | exact fun _ h => .tail _ h | exact fun _ h => .tail _ (.tail _ h) | exact fun _ h => .tail _ (.tail _ (.tail _ h)) | exact fun _ h => .tail _ (.tail _ (.tail _ (.tail _ h))) | exact fun _ h => .tail _ (.tail _ (.tail _ (.tail _ (.tail _ h)))) | exact fun _ h => .tail _ (.tail _ (.tail _ (.tail _ (.tail _ (.tail _ h))))) | exact fun _ h => .tail _ (.tail _ (.tail _ (.tail _ (.tail _ (.tail _ (.tail _ h)))))) | exact fun _ h => .tail _ (.tail _ (.tail _ (.tail _ (.tail _ (.tail _ (.tail _ (.tail _ h))))))) | exact fun _ h => .tail _ (.tail _ (.tail _ (.tail _ (.tail _ (.tail _ (.tail _ (.tail _ (.tail _ h)))))))) | exact fun _ h => .tail _ (.tail _ (.tail _ (.tail _ (.tail _ (.tail _ (.tail _ (.tail _ (.tail _ (.tail _ h))))))))) | exact fun _ h => .tail _ (.tail _ (.tail _ (.tail _ (.tail _ (.tail _ (.tail _ (.tail _ (.tail _ (.tail _ (.tail _ h)))))))))) | exact fun _ h => .tail _ (.tail _ (.tail _ (.tail _ (.tail _ (.tail _ (.tail _ (.tail _ (.tail _ (.tail _ (.tail _ (.tail _ h))))))))))) | exact fun _ h => .tail _ (.tail _ (.tail _ (.tail _ (.tail _ (.tail _ (.tail _ (.tail _ (.tail _ (.tail _ (.tail _ (.tail _ (.tail _ h)))))))))))) | exact fun _ h => .tail _ (.tail _ (.tail _ (.tail _ (.tail _ (.tail _ (.tail _ (.tail _ (.tail _ (.tail _ (.tail _ (.tail _ (.tail _ (.tail _ h))))))))))))) | exact fun _ h => .tail _ (.tail _ (.tail _ (.tail _ (.tail _ (.tail _ (.tail _ (.tail _ (.tail _ (.tail _ (.tail _ (.tail _ (.tail _ (.tail _ (.tail _ h))))))))))))))) | exact Or.inl rfl); (case k6 => first | exact rfl | assumption); (case k7 => first | ((try dsimp only [Mine.ktrX]); (try simp only [depth_under_make, depth_under_kw, depth_in1, depth_deeper, depth_caller]); (try dsimp only [Mine.ktrX]); omega) | ((try dsimp only [Mine.ktrX] at *); ktr_room)); (case k8 => first | ((try dsimp only [Mine.ktrX]); (try simp only [units_in1, units_deeper, Around.mark_units, units_caller]); (try dsimp only [Mine.ktrX]); omega) | ((try dsimp only [Mine.ktrX] at *); ktr_units)); (first | assumption | k_mem | omega | rotate_left); (first | assumption | k_mem | omega | rotate_left); (first | assumption | k_mem | omega | rotate_left)); intro D9 t9 u9 v9 x9 h9 tk9 F9 N9; (try dsimp only); (try k_fold)))
namespace Mine
open PySem.Builtin.Int (intBits)
local macro_rules | `(tactic| walk_at "binaryOp LShift int int") => `(tactic| (refine Mine.lshift_w ?_ ?_ ?_; rotate_left 2; (try dsimp only)))
local macro_rules | `(tactic| walk_at "inplaceOp LShift int int") => `(tactic| (refine Mine.ilshift_w ?_ ?_ ?_; rotate_left 2; (try dsimp only)))
local macro_rules | `(tactic| walk_at "binaryOp BitAnd int int") => `(tactic| (refine Mine.and_w ?_; (try dsimp only)))
local macro_rules | `(tactic| walk_at "compareOp In str str") => `(tactic| (refine Mine.in_fd ?_))
local macro_rules | `(tactic| walk_at "call builtin:max") => `(tactic| ((rename News _ _ _ _ => N'); (rename Fr _ _ _ _ => F'); (with_unfolding_all refine Mine.max_w rfl F' N' ?_); intro v9 h9 tk9 F9 N9; (try dsimp only)))
set_option maxRecDepth 100000 in
set_option maxHeartbeats 8000000 in
theorem c_sqrt (wy : Way) (w : World) (news : List (Addr × Obj)) (D : Addr) (man exp prec : Int) (t u v x y z : Tok) (hD : (D, o4 0 man exp (intBits man) t u v x) ∈ news) (hm : 0 < man) (hp : 1 ≤ prec) (hp2 : prec ≤ 1000) (hb : intBits man ≤ 1000) :
    Ctr w 133 6 news [.ref D, .int prec y, .str wy.str z] (RetT4 news 0 (lr wy man exp prec).1 (lr wy man exp prec).2.1 (lr wy man exp prec).2.2) := by
  w_top off
  dsimp only [Ctr, RetI, RetT2, RetT4, RetB, RetZ]
  k_fill
  intro pp loose mean mg mb dp un gd cn cs a ccd cl outer A₀ base h₀ L m s hxx Q E B F X N T hk hdp hu hcalm hret
  refine wpAny_call ?_
  k_dflt (refine' code_def ?k1 ?k2 ?k3 ?k4 ?k5 ?kA ?kF ?kK ?k6 ?k7 ?k8 ?k9 ?kB ?_ ?c2 ?c3 ?c4 ?c5; (case kA => exact rfl); (case kF => exact rfl); (case kK => assumption); (case k1 => k_asm); (case k2 => k_asm); (case k3 => k_asm); (case k4 => k_asm); (case k5 => k_asm); (case k6 => k_is); (case k7 => k_is); (case k8 => first | ((try dsimp only [Mine.ktrX]); (try simp only [depth_under_make, depth_under_kw, depth_in1, depth_deeper, depth_caller]); (try dsimp only [Mine.ktrX]); omega) | ((try dsimp only [Mine.ktrX] at *); ktr_room)); (case k9 => first | exact BindsTo.of_eq rfl | exact binds_K (by k_in) rfl (by k_is) rfl rfl rfl); (case c5 => decide); (case kB => exact locs rfl); (case c2 => exact rfl); (case c3 => exact rfl); (case c4 => exact rfl); k_whole; intro g' L' h' FG' F' N' B' X' T'; (try dsimp only); (try k_lift B'); (try k_fold))
  k_with_none
  repeat' (first | (k_unfold; (try dsimp only)) | walk1 | (dsimp only; walk1) | (leave1; try dsimp only) | fail "no step")
  all_goals first
    | ((with_reducible show (_ : Int) ≤ _); first | omega | with_reducible exact hm | with_reducible exact hp | with_reducible exact IntMulOk.of_left (by decide) | (have q := sq_side hp hp2 (odd_facts hm (by assumption)).1 (odd_facts hm (by assumption)).2.1 (by omega); first | with_reducible exact q.1 | with_reducible exact q.2.1 | with_reducible exact q.2.2.1 | with_reducible exact q.2.2.2.1 | with_reducible exact q.2.2.2.2.1 | with_reducible exact Int.le_trans q.2.2.2.2.2.1 (by decide) | with_reducible exact (sticky_side q.2.2.2.2.1 q.2.2.2.2.2.1).1 | with_reducible exact (sticky_side q.2.2.2.2.1 q.2.2.2.2.2.1).2.1 | with_reducible exact (sticky_side q.2.2.2.2.1 q.2.2.2.2.2.1).2.2) | (have q := sq_side hp hp2 hm rfl (by omega); first | with_reducible exact q.1 | with_reducible exact q.2.1 | with_reducible exact q.2.2.1 | with_reducible exact q.2.2.2.1 | with_reducible exact q.2.2.2.2.1 | with_reducible exact Int.le_trans q.2.2.2.2.2.1 (by decide) | with_reducible exact (sticky_side q.2.2.2.2.1 q.2.2.2.2.2.1).1 | with_reducible exact (sticky_side q.2.2.2.2.1 q.2.2.2.2.2.1).2.1 | with_reducible exact (sticky_side q.2.2.2.2.1 q.2.2.2.2.2.1).2.2) | omega)
    | ((with_reducible show (_ : Nat) ≤ _); first | omega | with_reducible exact hm | with_reducible exact hp | with_reducible exact IntMulOk.of_left (by decide) | (have q := sq_side hp hp2 (odd_facts hm (by assumption)).1 (odd_facts hm (by assumption)).2.1 (by omega); first | with_reducible exact q.1 | with_reducible exact q.2.1 | with_reducible exact q.2.2.1 | with_reducible exact q.2.2.2.1 | with_reducible exact q.2.2.2.2.1 | with_reducible exact Int.le_trans q.2.2.2.2.2.1 (by decide) | with_reducible exact (sticky_side q.2.2.2.2.1 q.2.2.2.2.2.1).1 | with_reducible exact (sticky_side q.2.2.2.2.1 q.2.2.2.2.2.1).2.1 | with_reducible exact (sticky_side q.2.2.2.2.1 q.2.2.2.2.2.1).2.2) | (have q := sq_side hp hp2 hm rfl (by omega); first | with_reducible exact q.1 | with_reducible exact q.2.1 | with_reducible exact q.2.2.1 | with_reducible exact q.2.2.2.1 | with_reducible exact q.2.2.2.2.1 | with_reducible exact Int.le_trans q.2.2.2.2.2.1 (by decide) | with_reducible exact (sticky_side q.2.2.2.2.1 q.2.2.2.2.2.1).1 | with_reducible exact (sticky_side q.2.2.2.2.1 q.2.2.2.2.2.1).2.1 | with_reducible exact (sticky_side q.2.2.2.2.1 q.2.2.2.2.2.1).2.2) | omega)
    | ((with_reducible show (_ : Int) < _); first | omega | with_reducible exact hm | with_reducible exact hp | with_reducible exact IntMulOk.of_left (by decide) | (have q := sq_side hp hp2 (odd_facts hm (by assumption)).1 (odd_facts hm (by assumption)).2.1 (by omega); first | with_reducible exact q.1 | with_reducible exact q.2.1 | with_reducible exact q.2.2.1 | with_reducible exact q.2.2.2.1 | with_reducible exact q.2.2.2.2.1 | with_reducible exact Int.le_trans q.2.2.2.2.2.1 (by decide) | with_reducible exact (sticky_side q.2.2.2.2.1 q.2.2.2.2.2.1).1 | with_reducible exact (sticky_side q.2.2.2.2.1 q.2.2.2.2.2.1).2.1 | with_reducible exact (sticky_side q.2.2.2.2.1 q.2.2.2.2.2.1).2.2) | (have q := sq_side hp hp2 hm rfl (by omega); first | with_reducible exact q.1 | with_reducible exact q.2.1 | with_reducible exact q.2.2.1 | with_reducible exact q.2.2.2.1 | with_reducible exact q.2.2.2.2.1 | with_reducible exact Int.le_trans q.2.2.2.2.2.1 (by decide) | with_reducible exact (sticky_side q.2.2.2.2.1 q.2.2.2.2.2.1).1 | with_reducible exact (sticky_side q.2.2.2.2.1 q.2.2.2.2.2.1).2.1 | with_reducible exact (sticky_side q.2.2.2.2.1 q.2.2.2.2.2.1).2.2) | omega)
    | ((with_reducible show IntMulOk _ _); first | omega | with_reducible exact hm | with_reducible exact hp | with_reducible exact IntMulOk.of_left (by decide) | (have q := sq_side hp hp2 (odd_facts hm (by assumption)).1 (odd_facts hm (by assumption)).2.1 (by omega); first | with_reducible exact q.1 | with_reducible exact q.2.1 | with_reducible exact q.2.2.1 | with_reducible exact q.2.2.2.1 | with_reducible exact q.2.2.2.2.1 | with_reducible exact Int.le_trans q.2.2.2.2.2.1 (by decide) | with_reducible exact (sticky_side q.2.2.2.2.1 q.2.2.2.2.2.1).1 | with_reducible exact (sticky_side q.2.2.2.2.1 q.2.2.2.2.2.1).2.1 | with_reducible exact (sticky_side q.2.2.2.2.1 q.2.2.2.2.2.1).2.2) | (have q := sq_side hp hp2 hm rfl (by omega); first | with_reducible exact q.1 | with_reducible exact q.2.1 | with_reducible exact q.2.2.1 | with_reducible exact q.2.2.2.1 | with_reducible exact q.2.2.2.2.1 | with_reducible exact Int.le_trans q.2.2.2.2.2.1 (by decide) | with_reducible exact (sticky_side q.2.2.2.2.1 q.2.2.2.2.2.1).1 | with_reducible exact (sticky_side q.2.2.2.2.1 q.2.2.2.2.2.1).2.1 | with_reducible exact (sticky_side q.2.2.2.2.1 q.2.2.2.2.2.1).2.2) | omega)
    | (rename Fr _ _ _ _ => lF; rename News _ _ _ _ => lN; refine retN_end hret ?_ lF lN (by k_mem) (by first | exact fun _ h => .tail _ h | exact fun _ h => h | exact fun _ h => .tail _ (.tail _ h) | exact fun _ h => .tail _ (.tail _ (.tail _ h)) | exact fun _ h => .tail _ (.tail _ (.tail _ (.tail _ h))) | exact fun _ h => .tail _ (.tail _ (.tail _ (.tail _ (.tail _ h)))))
       first
         | exact is3_eq ((sq_all (wy := wy) hp hp2 hm (odd_facts hm (by assumption)).1 (odd_facts hm (by assumption)).2.1 (by omega) (odd_facts hm (by assumption)).2.2.1 (odd_facts hm (by assumption)).2.2.2.1 (odd_facts hm (by assumption)).2.2.2.2).1 (by assumption))
         | exact is3_eq ((sq_all (wy := wy) hp hp2 hm (odd_facts hm (by assumption)).1 (odd_facts hm (by assumption)).2.1 (by omega) (odd_facts hm (by assumption)).2.2.1 (odd_facts hm (by assumption)).2.2.2.1 (odd_facts hm (by assumption)).2.2.2.2).2.1 (by assumption) (by assumption))
         | exact is3_eq ((sq_all (wy := wy) hp hp2 hm (odd_facts hm (by assumption)).1 (odd_facts hm (by assumption)).2.1 (by omega) (odd_facts hm (by assumption)).2.2.1 (odd_facts hm (by assumption)).2.2.2.1 (odd_facts hm (by assumption)).2.2.2.2).2.2 (by assumption))
         | exact is3_eq ((sq_all (wy := wy) hp hp2 hm hm rfl (by omega) (even_facts (man := man) (by assumption)).1 (Int.le_refl _) (even_facts (man := man) (by assumption)).2).1 (by assumption))
         | exact is3_eq ((sq_all (wy := wy) hp hp2 hm hm rfl (by omega) (even_facts (man := man) (by assumption)).1 (Int.le_refl _) (even_facts (man := man) (by assumption)).2).2.1 (by assumption) (by assumption))
         | exact is3_eq ((sq_all (wy := wy) hp hp2 hm hm rfl (by omega) (even_facts (man := man) (by assumption)).1 (Int.le_refl _) (even_facts (man := man) (by assumption)).2).2.2 (by assumption))
         | exact is3_eq (sq_one hp (by assumption) (by assumption)))
    | (exfalso; omega)
set_option maxRecDepth 100000 in
set_option maxHeartbeats 8000000 in
theorem c_sqrt0 (wy : Way) (w : World) (news : List (Addr × Obj)) (prec : Int) (y z : Tok) :
    Ctr w 133 6 news [.ref 56, .int prec y, .str wy.str z] (RetZ news) := by
  w_top off
  dsimp only [Ctr, RetI, RetT2, RetT4, RetB, RetZ]
  k_fill
  intro pp loose mean mg mb dp un gd cn cs a ccd cl outer A₀ base h₀ L m s hxx Q E B F X N T hk hdp hu hcalm hret
  refine wpAny_call ?_
  k_dflt (refine' code_def ?k1 ?k2 ?k3 ?k4 ?k5 ?kA ?kF ?kK ?k6 ?k7 ?k8 ?k9 ?kB ?_ ?c2 ?c3 ?c4 ?c5; (case kA => exact rfl); (case kF => exact rfl); (case kK => assumption); (case k1 => k_asm); (case k2 => k_asm); (case k3 => k_asm); (case k4 => k_asm); (case k5 => k_asm); (case k6 => k_is); (case k7 => k_is); (case k8 => first | ((try dsimp only [Mine.ktrX]); (try simp only [depth_under_make, depth_under_kw, depth_in1, depth_deeper, depth_caller]); (try dsimp only [Mine.ktrX]); omega) | ((try dsimp only [Mine.ktrX] at *); ktr_room)); (case k9 => first | exact BindsTo.of_eq rfl | exact binds_K (by k_in) rfl (by k_is) rfl rfl rfl); (case c5 => decide); (case kB => exact locs rfl); (case c2 => exact rfl); (case c3 => exact rfl); (case c4 => exact rfl); k_whole; intro g' L' h' FG' F' N' B' X' T'; (try dsimp only); (try k_lift B'); (try k_fold))
  k_with_none
  repeat' (first | (k_unfold; (try dsimp only)) | walk1 | (dsimp only; walk1) | (leave1; try dsimp only) | fail "no step")
  all_goals first
    | (rename Fr _ _ _ _ => lF; rename News _ _ _ _ => lN; exact retZ_end hret lF lN (by first | exact fun _ h => .tail _ h | exact fun _ h => h | exact fun _ h => .tail _ (.tail _ h) | exact fun _ h => .tail _ (.tail _ (.tail _ h)) | exact fun _ h => .tail _ (.tail _ (.tail _ (.tail _ h))) | exact fun _ h => .tail _ (.tail _ (.tail _ (.tail _ (.tail _ h))))))
    | (exfalso; omega)
end Mine

end
namespace Mine
open PySem.Builtin.Int (intBits)
/-- four ints in a tuple at this address -/
def IsT4 (h : Heap) (D : Addr) (a b c d : Int) : Prop := ∃ o t u v x n, h.get? D = some o ∧ o.cls = .type "tuple" ∧ o.data = .seq #[.int a t, .int b u, .int c v, .int d x] n
theorem IsT4.of_news {h₀ h : Heap} {L D : Addr} {news : List (Addr × Obj)} {a b c d : Int} {t u v x : Tok} (N : News h₀ L h news) (hm : (D, o4 a b c d t u v x) ∈ news) : IsT4 h D a b c d :=
  ⟨_, t, u, v, x, _, (N _ hm).1, rfl, rfl⟩
theorem z_look (w : World) : ∃ o t u v x n, (hd.heap_39 w.params).lookup 56 = some o ∧ o.cls = .type "tuple" ∧ o.data = .seq #[.int 0 t, .int 0 u, .int 0 v, .int 0 x] n :=
  ⟨_, _, _, _, _, _, rfl, rfl, rfl⟩
theorem IsT4.of_K {w : World} {h : Heap} (X : (hd.heap_39 w.params).In h) : IsT4 h 56 0 0 0 0 := by
  obtain ⟨o, t, u, v, x, n, h1, h2, h3⟩ := z_look w
  exact ⟨o, t, u, v, x, n, X _ _ h1, h2, h3⟩
theorem IsT4.reads {h : Heap} {D : Addr} {a b c d : Int} (I : IsT4 h D a b c d) : Reads h (.ref D) (.tuple [.int a, .int b, .int c, .int d]) [] := by
  obtain ⟨o, t, u, v, x, n, h1, h2, h3⟩ := I
  exact reads_tuple_at h1 h2 h3 (.cons (as := []) (.int _ _) (.cons (as := []) (.int _ _) (.cons (as := []) (.int _ _) (.cons (as := []) (.int _ _) .nil))))
theorem eqv4 (a b c d a' b' c' d' : Int) : PyData.eqv (.tuple [.int a, .int b, .int c, .int d]) (.tuple [.int a', .int b', .int c', .int d']) = decide (a = a' ∧ b = b' ∧ c = c' ∧ d = d') := by
  simp only [PyData.eqv, PyData.eqvAll, Bool.and_true]
  by_cases h1 : a = a' <;> by_cases h2 : b = b' <;> by_cases h3 : c = c' <;> by_cases h4 : d = d' <;> simp [h1, h2, h3, h4]
section
variable {prog : Program} {w : World} {A : Around} {E : Value → Shared → Prop} {s : Shared} {D D' : Addr} {a b c d a' b' c' d' : Int} {Q : Value → Shared → Prop}
theorem eq4 (I : IsT4 s.heap D a b c d) (I' : IsT4 s.heap D' a' b' c' d') (hu : A.units + 64 < cLine) (h : Q (.bool (decide (a = a' ∧ b = b' ∧ c = c' ∧ d = d'))) s) : wpAny (model prog w) A (compareOp .Eq (.ref D) (.ref D')) Q E s :=
  eq_dataH I.reads I'.reads (by rfl) (by rfl) hu (by rw [eqv4]; exact h)
theorem ne4 (I : IsT4 s.heap D a b c d) (I' : IsT4 s.heap D' a' b' c' d') (hu : A.units + 64 < cLine) (h : Q (.bool (!decide (a = a' ∧ b = b' ∧ c = c' ∧ d = d'))) s) : wpAny (model prog w) A (compareOp .NotEq (.ref D) (.ref D')) Q E s :=
  ne_dataH I.reads I'.reads (by rfl) (by rfl) hu (by rw [eqv4]; exact h)
end
end Mine

namespace Mine
open PySem.Builtin.Int (intBits)
theorem rn_bits (wy : Way) (m e p : Int) : (rn wy m e p).2.2 = (intBits (rn wy m e p).1 : Int) := by unfold rn nm; split <;> rfl
theorem c_add2 (w : World) (news : List (Addr × Obj)) (D D2 : Addr) (m1 e1 b1 m2 e2 b2 prec : Int) (t u v x t' u' v' x' y : Tok) (hD : (D, o4 0 m1 e1 b1 t u v x) ∈ news) (hD2 : (D2, o4 0 m2 e2 b2 t' u' v' x') ∈ news) (h1 : 0 < m1) (h2 : 0 < m2) (ho : -100 ≤ e1 - e2 ∧ e1 - e2 ≤ 100) (hp : 1 ≤ prec) (hb1 : intBits m1 ≤ 4000) (hb2 : intBits m2 ≤ 4000) :
    Ctr w 117 4 news [.ref D, .ref D2, .int prec y] (RetT4 news 0 (rn .d (addM m1 e1 m2 e2) (lst e1 e2) prec).1 (rn .d (addM m1 e1 m2 e2) (lst e1 e2) prec).2.1 (intBits (rn .d (addM m1 e1 m2 e2) (lst e1 e2) prec).1)) := by
  rw [← rn_bits]
  exact c_add w news D D2 m1 e1 b1 m2 e2 b2 prec t u v x t' u' v' x' y hD hD2 h1 h2 ho hp hb1 hb2
end Mine

section
local macro_rules | `(tactic| walk_at "none 0") => `(tactic| fail)
local macro_rules | `(tactic| walk_at "none 1") => `(tactic| fail)
local macro_rules | `(tactic| walk_at "none 2") => `(tactic| fail)
local macro_rules | `(tactic| walk_at "none 3") => `(tactic| fail)
local macro_rules | `(tactic| walk_at "none 4") => `(tactic| fail)
local macro_rules | `(tactic| walk_at "none 5") => `(tactic| fail)
local macro_rules | `(tactic| walk_at "none 6") => `(tactic| fail)
local macro_rules | `(tactic| walk_at "none 7") => `(tactic| fail)
local macro_rules | `(tactic| walk_at "none 8") => `(tactic| fail)
local macro_rules | `(tactic| walk_at "none 9") => `(tactic| fail)
local macro_rules | `(tactic| walk_at "binaryOp LShift int int") => `(tactic| (refine PyProof.Rows.lshift_int ?_ ?_ ?_; rotate_left 2))
local macro_rules | `(tactic| walk_at "binaryOp FloorDiv int int") => `(tactic| (refine PyProof.Rows.floordiv_int (Mine.ninv_pos (by assumption)) ?_ (Or.inl (PyProof.noPylong_of_log2 (Mine.ninv_log (by assumption))))))
local macro_rules | `(tactic| walk_at "binaryOp Mult int int") => `(tactic| (refine PyProof.Rows.mul_int ?_ ?_; (try dsimp only)))
local macro_rules | `(tactic| walk_at "binaryOp Pow int int") => `(tactic| (refine PyProof.Rows.pow_int ?_ ?_ ?_; rotate_left 2; (try dsimp only)))
local macro_rules | `(tactic| walk_at "execs cons") => `(tactic| (with_reducible (refine Mine.gen_toks ?_; intro tk; refine wpAny_execs_cons ?_); (try dsimp only)))
local macro_rules | `(tactic| walk_at "execs nil") => `(tactic| (with_reducible (refine Mine.gen_toks ?_; intro tk; refine wpAny_execs_nil ?_); (try dsimp only)))
local macro_rules | `(tactic| walk_at "unpackItems ref") => `(tactic| (k_here; k_dflt (refine' Mine.unpack_calm ?kA ?kC ?k1 ?k2 ?k3 ?k5 ?_; (case kA => exact rfl); (case k1 => k_asm); (case k2 => k_asm); (case kC => first | exact Mine.CalmN.at (by assumption) (by k_asm) (by first | exact fun _ h => h | exact fun _ h => .tail _ h | exact fun _ h => .tail _ (.tail _ h) | exact fun _ h => .tail _ (.tail _ (.tail _ h)) | exact fun _ h => .tail _ (.tail _ (.tail _ (.tail _ h))) | exact fun _ h => .tail _ (.tail _ (.tail _ (.tail _ (.tail _ h)))) | exact fun _ h => .tail _ (.tail _ (.tail _ (.tail _ (.tail _ (.tail _ h))))) | exact fun _ h => .tail _ (.tail _ (.tail _ (.tail _ (.tail _ (.tail _ (.tail _ h)))))) | exact fun _ h => .tail _ (.tail _ (.tail _ (.tail _ (.tail _ (.tail _ (.tail _ (.tail _ h))))))) | exact fun _ h => .tail _ (.tail _ (.tail _ (.tail _ (.tail _ (.tail _ (.tail _ (.tail _ (.tail _ h)))))))) | exact fun _ h => .tail _ (.tail _ (.tail _ (.tail _ (.tail _ (.tail _ (.tail _ (.tail _ (.tail _ (.tail _ h))))))))) | exact fun _ h => .tail _ (.tail _ (.tail _ (.tail _ (.tail _ (.tail _ (.tail _ (.tail _ (.tail _ (.tail _ (.tail _ h)))))))))) | exact fun _ h => .tail _ (.tail _ (.tail _ (.tail _ (.tail _ (.tail _ (.tail _ (.tail _ (.tail _ (.tail _ (.tail _ (.tail _ h))))))))))) | exact fun _ h => .tail _ (.tail _ (.tail _ (.tail _ (.tail _ (.tail _ (.tail _ (.tail _ (.tail _ (.tail _ (.tail _ (.tail _ (.tail _ h)))))))))))) | exact fun _ h => .tail _ (.tail _ (.tail _ (.tail _ (.tail _ (.tail _ (.tail _ (.tail _ (.tail _ (.tail _ (.tail _ (.tail _ (.tail _ (.tail _ h))))))))))))) | exact fun _ h => .tail _ (.tail _ (.tail _ (.tail _ (.tail _ (.tail _ (.tail _ (.tail _ (.tail _ (.tail _ (.tail _ (.tail _ (.tail _ (.tail _ (.tail _ h))))))))))))))) | exact Or.inl rfl); (case k3 => kun_tup); (case k5 => exact rfl); k_whole); intro h' F' N'; (try k_sweep)))
local macro_rules | `(tactic| walk_at "assign Tuple") => `(tactic| (k_here; (with_reducible show wpAny _ _ (assign (Expr.Tuple _ _ _) _ (Value.ref _)) _ _ _); k_dflt (refine' Mine.assign_calm ?kA ?kC ?k1 ?k2 ?k3 ?k5 ?k6 ?_; (case kA => exact rfl); (case k1 => k_asm); (case k2 => k_asm); (case kC => first | exact Mine.CalmN.at (by assumption) (by k_asm) (by first | exact fun _ h => h | exact fun _ h => .tail _ h | exact fun _ h => .tail _ (.tail _ h) | exact fun _ h => .tail _ (.tail _ (.tail _ h)) | exact fun _ h => .tail _ (.tail _ (.tail _ (.tail _ h))) | exact fun _ h => .tail _ (.tail _ (.tail _ (.tail _ (.tail _ h)))) | exact fun _ h => .tail _ (.tail _ (.tail _ (.tail _ (.tail _ (.tail _ h))))) | exact fun _ h => .tail _ (.tail _ (.tail _ (.tail _ (.tail _ (.tail _ (.tail _ h)))))) | exact fun _ h => .tail _ (.tail _ (.tail _ (.tail _ (.tail _ (.tail _ (.tail _ (.tail _ h))))))) | exact fun _ h => .tail _ (.tail _ (.tail _ (.tail _ (.tail _ (.tail _ (.tail _ (.tail _ (.tail _ h)))))))) | exact fun _ h => .tail _ (.tail _ (.tail _ (.tail _ (.tail _ (.tail _ (.tail _ (.tail _ (.tail _ (.tail _ h))))))))) | exact fun _ h => .tail _ (.tail _ (.tail _ (.tail _ (.tail _ (.tail _ (.tail _ (.tail _ (.tail _ (.tail _ (.tail _ h)))))))))) | exact fun _ h => .tail _ (.tail _ (.tail _ (.tail _ (.tail _ (.tail _ (.tail _ (.tail _ (.tail _ (.tail _ (.tail _ (.tail _ h))))))))))) | exact fun _ h => .tail _ (.tail _ (.tail _ (.tail _ (.tail _ (.tail _ (.tail _ (.tail _ (.tail _ (.tail _ (.tail _ (.tail _ (.tail _ h)))))))))))) | exact fun _ h => .tail _ (.tail _ (.tail _ (.tail _ (.tail _ (.tail _ (.tail _ (.tail _ (.tail _ (.tail _ (.tail _ (.tail _ (.tail _ (.tail _ h))))))))))))) | exact fun _ h => .tail _ (.tail _ (.tail _ (.tail _ (.tail _ (.tail _ (.tail _ (.tail _ (.tail _ (.tail _ (.tail _ (.tail _ (.tail _ (.tail _ (.tail _ h))))))))))))))) | exact Or.inl rfl); (case k3 => kun_tup); (case k5 => exact rfl); (case k6 => exact rfl); k_whole); intro h' F' N'; (try k_sweep)))
local macro_rules | `(tactic| walk_at "call builtin:min") => `(tactic| (k_here; (with_reducible show wpAny _ _ (call (Value.builtin _) [Value.int _ _, Value.int _ _]) _ _ _); k_dflt (refine' Mine.min_calm ?kA ?kC ?k1 ?k2 ?_; (case kA => exact rfl); (case k1 => k_asm); (case k2 => k_asm); (case kC => first | exact Mine.CalmN.at (by assumption) (by k_asm) (by first | exact fun _ h => h | exact fun _ h => .tail _ h | exact fun _ h => .tail _ (.tail _ h) | exact fun _ h => .tail _ (.tail _ (.tail _ h)) | exact fun _ h => .tail _ (.tail _ (.tail _ (.tail _ h))) | exact fun _ h => .tail _ (.tail _ (.tail _ (.tail _ (.tail _ h)))) | exact fun _ h => .tail _ (.tail _ (.tail _ (.tail _ (.tail _ (.tail _ h))))) | exact fun _ h => .tail _ (.tail _ (.tail _ (.tail _ (.tail _ (.tail _ (.tail _ h)))))) | exact fun _ h => .tail _ (.tail _ (.tail _ (.tail _ (.tail _ (.tail _ (.tail _ (.tail _ h))))))) | exact fun _ h => .tail _ (.tail _ (.tail _ (.tail _ (.tail _ (.tail _ (.tail _ (.tail _ (.tail _ h)))))))) | exact fun _ h => .tail _ (.tail _ (.tail _ (.tail _ (.tail _ (.tail _ (.tail _ (.tail _ (.tail _ (.tail _ h))))))))) | exact fun _ h => .tail _ (.tail _ (.tail _ (.tail _ (.tail _ (.tail _ (.tail _ (.tail _ (.tail _ (.tail _ (.tail _ h)))))))))) | exact fun _ h => .tail _ (.tail _ (.tail _ (.tail _ (.tail _ (.tail _ (.tail _ (.tail _ (.tail _ (.tail _ (.tail _ (.tail _ h))))))))))) | exact fun _ h => .tail _ (.tail _ (.tail _ (.tail _ (.tail _ (.tail _ (.tail _ (.tail _ (.tail _ (.tail _ (.tail _ (.tail _ (.tail _ h)))))))))))) | exact fun _ h => .tail _ (.tail _ (.tail _ (.tail _ (.tail _ (.tail _ (.tail _ (.tail _ (.tail _ (.tail _ (.tail _ (.tail _ (.tail _ (.tail _ h))))))))))))) | exact fun _ h => .tail _ (.tail _ (.tail _ (.tail _ (.tail _ (.tail _ (.tail _ (.tail _ (.tail _ (.tail _ (.tail _ (.tail _ (.tail _ (.tail _ (.tail _ h))))))))))))))) | exact Or.inl rfl); k_whole); intro h9 tk9 F9 N9; (try dsimp only)))
local macro_rules | `(tactic| walk_at "call builtin:max") => `(tactic| (k_here; (with_reducible show wpAny _ _ (call (Value.builtin _) [Value.int _ _, Value.int _ _]) _ _ _); k_dflt (refine' Mine.max_wc ?kA ?kC ?k1 ?k2 ?_; (case kA => exact rfl); (case k1 => k_asm); (case k2 => k_asm); (case kC => first | exact Mine.CalmN.at (by assumption) (by k_asm) (by first | exact fun _ h => h | exact fun _ h => .tail _ h | exact fun _ h => .tail _ (.tail _ h) | exact fun _ h => .tail _ (.tail _ (.tail _ h)) | exact fun _ h => .tail _ (.tail _ (.tail _ (.tail _ h))) | exact fun _ h => .tail _ (.tail _ (.tail _ (.tail _ (.tail _ h)))) | exact fun _ h => .tail _ (.tail _ (.tail _ (.tail _ (.tail _ (.tail _ h))))) | exact fun _ h => .tail _ (.tail _ (.tail _ (.tail _ (.tail _ (.tail _ (.tail _ h)))))) | exact fun _ h => .tail _ (.tail _ (.tail _ (.tail _ (.tail _ (.tail _ (.tail _ (.tail _ h))))))) | exact fun _ h => .tail _ (.tail _ (.tail _ (.tail _ (.tail _ (.tail _ (.tail _ (.tail _ (.tail _ h)))))))) | exact fun _ h => .tail _ (.tail _ (.tail _ (.tail _ (.tail _ (.tail _ (.tail _ (.tail _ (.tail _ (.tail _ h))))))))) | exact fun _ h => .tail _ (.tail _ (.tail _ (.tail _ (.tail _ (.tail _ (.tail _ (.tail _ (.tail _ (.tail _ (.tail _ h)))))))))) | exact fun _ h => .tail _ (.tail _ (.tail _ (.tail _ (.tail _ (.tail _ (.tail _ (.tail _ (.tail _ (.tail _ (.tail _ (.tail _ h))))))))))) | exact fun _ h => .tail _ (.tail _ (.tail _ (.tail _ (.tail _ (.tail _ (.tail _ (.tail _ (.tail _ (.tail _ (.tail _ (.tail _ (.tail _ h)))))))))))) | exact fun _ h => .tail _ (.tail _ (.tail _ (.tail _ (.tail _ (.tail _ (.tail _ (.tail _ (.tail _ (.tail _ (.tail _ (.tail _ (.tail _ (.tail _ h))))))))))))) | exact fun _ h => .tail _ (.tail _ (.tail _ (.tail _ (.tail _ (.tail _ (.tail _ (.tail _ (.tail _ (.tail _ (.tail _ (.tail _ (.tail _ (.tail _ (.tail _ h))))))))))))))) | exact Or.inl rfl); k_whole); intro v9 h9 tk9 F9 N9; (try dsimp only)))
local macro_rules | `(tactic| walk_at "exec Assert") => `(tactic| (refine Mine.assert_holds ?_))

local macro_rules | `(tactic| walk_at "call ref") => `(tactic| (k_here; (with_reducible show wpAny _ _ (call (Value.ref 125) _) _ _ _); k_dflt (refine' Mine.Ctr.use (Mine.c_mul _ _ _ _ _ _ _ _ _ _ _ ?m1 ?_ ?_ ?_) ?k1 ?k2 ?k3 ?k4 ?k5 ?k6 ?k7 ?k8 ?k9 ?_; (case k1 => k_asm); (case k2 => k_asm); (case k3 => k_asm); (case k4 => k_asm); (case k5 => k_asm); (case k9 => first | assumption | exact Mine.CalmN.sub (by assumption) (by first | exact fun _ h => h | exact fun _ h => .tail _ h | exact fun _ h => .tail _ (.tail _ h) | exact fun _ h => .tail _ (.tail _ (.tail _ h)) | exact fun _ h => .tail _ (.tail _ (.tail _ (.tail _ h))) | exact fun _ h => .tail _ (.tail _ (.tail _ (.tail _ (.tail _ h)))) | exact fun _ h => .tail _ (.tail _ (.tail _ (.tail _ (.tail _ (.tail _ h))))) | exact fun _ h => .tail _ (.tail _ (.tail _ (.tail _ (.tail _ (.tail _ (.tail _ h)))))) | exact fun _ h => .tail _ (.tail _ (.tail _ (.tail _ (.tail _ (.tail _ (.tail _ (.tail _ h))))))) | exact fun _ h => .tail _ (.tail _ (.tail _ (.tail _ (.tail _ (.tail _ (.tail _ (.tail _ (.tail _ h)))))))) | exact fun _ h => .tail _ (.tail _ (.tail _ (.tail _ (.tail _ (.tail _ (.tail _ (.tail _ (.tail _ (.tail _ h))))))))) | exact fun _ h => .tail _ (.tail _ (.tail _ (.tail _ (.tail _ (.tail _ (.tail _ (.tail _ (.tail _ (.tail _ (.tail _ h)))))))))) | exact fun _ h => .tail _ (.tail _ (.tail _ (.tail _ (.tail _ (.tail _ (.tail _ (.tail _ (.tail _ (.tail _ (.tail _ (.tail _ h))))))))))) | exact fun _ h => .tail _ (.tail _ (.tail _ (.tail _ (.tail _ (.tail _ (.tail _ (.tail _ (.tail _ (.tail _ (.tail _ (.tail _ (.tail _ h)))))))))))) | exact fun _ h => .tail _ (.tail _ (.tail _ (.tail _ (.tail _ (.tail _ (.tail _ (.tail _ (.tail _ (.tail _ (.tail _ (.tail _ (.tail _ (.tail _ h))))))))))))) | exact fun _ h => .tail _ (.tail _ (.tail _ (.tail _ (.tail _ (.tail _ (.tail _ (.tail _ (.tail _ (.tail _ (.tail _ (.tail _ (.tail _ (.tail _ (.tail _ h))))))))))))))) | exact Or.inl rfl); (case k6 => first | exact rfl | assumption); (case k7 => first | ((try dsimp only [Mine.ktrX]); (try simp only [depth_under_make, depth_under_kw, depth_in1, depth_deeper, depth_caller]); (try dsimp only [Mine.ktrX]); omega) | ((try dsimp only [Mine.ktrX] at *); ktr_room)); (case k8 => first | ((try dsimp only [Mine.ktrX]); (try simp only [units_in1, units_deeper, Around.mark_units, units_caller]); (try dsimp only [Mine.ktrX]); omega) | ((try dsimp only [Mine.ktrX] at *); ktr_units)); (case m1 => first | assumption | exact List.Mem.head _ | exact .tail _ (by assumption) | exact .tail _ (.head _) | exact .tail _ (.tail _ (by assumption)) | exact .tail _ (.tail _ (.head _)) | exact .tail _ (.tail _ (.tail _ (by assumption))) | exact .tail _ (.tail _ (.tail _ (.head _))) | exact .tail _ (.tail _ (.tail _ (.tail _ (by assumption)))) | exact .tail _ (.tail _ (.tail _ (.tail _ (.head _)))) | exact .tail _ (.tail _ (.tail _ (.tail _ (.tail _ (by assumption))))) | exact .tail _ (.tail _ (.tail _ (.tail _ (.tail _ (.head _))))) | exact .tail _ (.tail _ (.tail _ (.tail _ (.tail _ (.tail _ (by assumption)))))) | exact .tail _ (.tail _ (.tail _ (.tail _ (.tail _ (.tail _ (.head _)))))) | exact .tail _ (.tail _ (.tail _ (.tail _ (.tail _ (.tail _ (.tail _ (by assumption))))))) | exact .tail _ (.tail _ (.tail _ (.tail _ (.tail _ (.tail _ (.tail _ (.head _))))))) | k_mem); (all_goals skip); (first | assumption | k_mem | omega | rotate_left); (first | assumption | k_mem | omega | rotate_left); (first | assumption | k_mem | omega | rotate_left)); intro D9 t9 u9 v9 x9 h9 tk9 F9 N9; (try dsimp only); (try k_fold)))
local macro_rules | `(tactic| walk_at "call ref") => `(tactic| (k_here; (with_reducible show wpAny _ _ (call (Value.ref 117) _) _ _ _); k_dflt (refine' Mine.Ctr.use (Mine.c_add2 _ _ _ _ _ _ _ _ _ _ _ _ _ _ _ _ _ _ _ _ ?m1 ?m2 ?_ ?_ ?_ ?_ ?_ ?_) ?k1 ?k2 ?k3 ?k4 ?k5 ?k6 ?k7 ?k8 ?k9 ?_; (case k1 => k_asm); (case k2 => k_asm); (case k3 => k_asm); (case k4 => k_asm); (case k5 => k_asm); (case k9 => first | assumption | exact Mine.CalmN.sub (by assumption) (by first | exact fun _ h => h | exact fun _ h => .tail _ h | exact fun _ h => .tail _ (.tail _ h) | exact fun _ h => .tail _ (.tail _ (.tail _ h)) | exact fun _ h => .tail _ (.tail _ (.tail _ (.tail _ h))) | exact fun _ h => .tail _ (.tail _ (.tail _ (.tail _ (.tail _ h)))) | exact fun _ h => .tail _ (.tail _ (.tail _ (.tail _ (.tail _ (.tail _ h))))) | exact fun _ h => .tail _ (.tail _ (.tail _ (.tail _ (.tail _ (.tail _ (.tail _ h)))))) | exact fun _ h => .tail _ (.tail _ (.tail _ (.tail _ (.tail _ (.tail _ (.tail _ (.tail _ h))))))) | exact fun _ h => .tail _ (.tail _ (.tail _ (.tail _ (.tail _ (.tail _ (.tail _ (.tail _ (.tail _ h)))))))) | exact fun _ h => .tail _ (.tail _ (.tail _ (.tail _ (.tail _ (.tail _ (.tail _ (.tail _ (.tail _ (.tail _ h))))))))) | exact fun _ h => .tail _ (.tail _ (.tail _ (.tail _ (.tail _ (.tail _ (.tail _ (.tail _ (.tail _ (.tail _ (.tail _ h)))))))))) | exact fun _ h => .tail _ (.tail _ (.tail _ (.tail _ (.tail _ (.tail _ (.tail _ (.tail _ (.tail _ (.tail _ (.tail _ (.tail _ h))))))))))) | exact fun _ h => .tail _ (.tail _ (.tail _ (.tail _ (.tail _ (.tail _ (.tail _ (.tail _ (.tail _ (.tail _ (.tail _ (.tail _ (.tail _ h)))))))))))) | exact fun _ h => .tail _ (.tail _ (.tail _ (.tail _ (.tail _ (.tail _ (.tail _ (.tail _ (.tail _ (.tail _ (.tail _ (.tail _ (.tail _ (.tail _ h))))))))))))) | exact fun _ h => .tail _ (.tail _ (.tail _ (.tail _ (.tail _ (.tail _ (.tail _ (.tail _ (.tail _ (.tail _ (.tail _ (.tail _ (.tail _ (.tail _ (.tail _ h))))))))))))))) | exact Or.inl rfl); (case k6 => first | exact rfl | assumption); (case k7 => first | ((try dsimp only [Mine.ktrX]); (try simp only [depth_under_make, depth_under_kw, depth_in1, depth_deeper, depth_caller]); (try dsimp only [Mine.ktrX]); omega) | ((try dsimp only [Mine.ktrX] at *); ktr_room)); (case k8 => first | ((try dsimp only [Mine.ktrX]); (try simp only [units_in1, units_deeper, Around.mark_units, units_caller]); (try dsimp only [Mine.ktrX]); omega) | ((try dsimp only [Mine.ktrX] at *); ktr_units)); (case m1 => first | assumption | exact List.Mem.head _ | exact .tail _ (by assumption) | exact .tail _ (.head _) | exact .tail _ (.tail _ (by assumption)) | exact .tail _ (.tail _ (.head _)) | exact .tail _ (.tail _ (.tail _ (by assumption))) | exact .tail _ (.tail _ (.tail _ (.head _))) | exact .tail _ (.tail _ (.tail _ (.tail _ (by assumption)))) | exact .tail _ (.tail _ (.tail _ (.tail _ (.head _)))) | exact .tail _ (.tail _ (.tail _ (.tail _ (.tail _ (by assumption))))) | exact .tail _ (.tail _ (.tail _ (.tail _ (.tail _ (.head _))))) | exact .tail _ (.tail _ (.tail _ (.tail _ (.tail _ (.tail _ (by assumption)))))) | exact .tail _ (.tail _ (.tail _ (.tail _ (.tail _ (.tail _ (.head _)))))) | exact .tail _ (.tail _ (.tail _ (.tail _ (.tail _ (.tail _ (.tail _ (by assumption))))))) | exact .tail _ (.tail _ (.tail _ (.tail _ (.tail _ (.tail _ (.tail _ (.head _))))))) | k_mem); (case m2 => first | assumption | exact List.Mem.head _ | exact .tail _ (by assumption) | exact .tail _ (.head _) | exact .tail _ (.tail _ (by assumption)) | exact .tail _ (.tail _ (.head _)) | exact .tail _ (.tail _ (.tail _ (by assumption))) | exact .tail _ (.tail _ (.tail _ (.head _))) | exact .tail _ (.tail _ (.tail _ (.tail _ (by assumption)))) | exact .tail _ (.tail _ (.tail _ (.tail _ (.head _)))) | exact .tail _ (.tail _ (.tail _ (.tail _ (.tail _ (by assumption))))) | exact .tail _ (.tail _ (.tail _ (.tail _ (.tail _ (.head _))))) | exact .tail _ (.tail _ (.tail _ (.tail _ (.tail _ (.tail _ (by assumption)))))) | exact .tail _ (.tail _ (.tail _ (.tail _ (.tail _ (.tail _ (.head _)))))) | exact .tail _ (.tail _ (.tail _ (.tail _ (.tail _ (.tail _ (.tail _ (by assumption))))))) | exact .tail _ (.tail _ (.tail _ (.tail _ (.tail _ (.tail _ (.tail _ (.head _))))))) | k_mem); (all_goals skip); (first | assumption | k_mem | omega | rotate_left); (first | assumption | k_mem | omega | rotate_left); (first | assumption | k_mem | omega | rotate_left); (first | assumption | k_mem | omega | rotate_left); (first | assumption | k_mem | omega | rotate_left); (first | assumption | k_mem | omega | rotate_left)); intro D9 t9 u9 v9 x9 h9 tk9 F9 N9; (try dsimp only); (try k_fold)))
local macro_rules | `(tactic| walk_at "call ref") => `(tactic| (k_here; (with_reducible show wpAny _ _ (call (Value.ref 102) _) _ _ _); k_dflt (refine' Mine.Ctr.use (Mine.c_abs _ _ _ _ _ _ _ _ _ _ _ _ _ _ ?m1 ?_ ?_ ?_) ?k1 ?k2 ?k3 ?k4 ?k5 ?k6 ?k7 ?k8 ?k9 ?_; (case k1 => k_asm); (case k2 => k_asm); (case k3 => k_asm); (case k4 => k_asm); (case k5 => k_asm); (case k9 => first | assumption | exact Mine.CalmN.sub (by assumption) (by first | exact fun _ h => h | exact fun _ h => .tail _ h | exact fun _ h => .tail _ (.tail _ h) | exact fun _ h => .tail _ (.tail _ (.tail _ h)) | exact fun _ h => .tail _ (.tail _ (.tail _ (.tail _ h))) | exact fun _ h => .tail _ (.tail _ (.tail _ (.tail _ (.tail _ h)))) | exact fun _ h => .tail _ (.tail _ (.tail _ (.tail _ (.tail _ (.tail _ h))))) | exact fun _ h => .tail _ (.tail _ (.tail _ (.tail _ (.tail _ (.tail _ (.tail _ h)))))) | exact fun _ h => .tail _ (.tail _ (.tail _ (.tail _ (.tail _ (.tail _ (.tail _ (.tail _ h))))))) | exact fun _ h => .tail _ (.tail _ (.tail _ (.tail _ (.tail _ (.tail _ (.tail _ (.tail _ (.tail _ h)))))))) | exact fun _ h => .tail _ (.tail _ (.tail _ (.tail _ (.tail _ (.tail _ (.tail _ (.tail _ (.tail _ (.tail _ h))))))))) | exact fun _ h => .tail _ (.tail _ (.tail _ (.tail _ (.tail _ (.tail _ (.tail _ (.tail _ (.tail _ (.tail _ (.tail _ h)))))))))) | exact fun _ h => .tail _ (.tail _ (.tail _ (.tail _ (.tail _ (.tail _ (.tail _ (.tail _ (.tail _ (.tail _ (.tail _ (.tail _ h))))))))))) | exact fun _ h => .tail _ (.tail _ (.tail _ (.tail _ (.tail _ (.tail _ (.tail _ (.tail _ (.tail _ (.tail _ (.tail _ (.tail _ (.tail _ h)))))))))))) | exact fun _ h => .tail _ (.tail _ (.tail _ (.tail _ (.tail _ (.tail _ (.tail _ (.tail _ (.tail _ (.tail _ (.tail _ (.tail _ (.tail _ (.tail _ h))))))))))))) | exact fun _ h => .tail _ (.tail _ (.tail _ (.tail _ (.tail _ (.tail _ (.tail _ (.tail _ (.tail _ (.tail _ (.tail _ (.tail _ (.tail _ (.tail _ (.tail _ h))))))))))))))) | exact Or.inl rfl); (case k6 => first | exact rfl | assumption); (case k7 => first | ((try dsimp only [Mine.ktrX]); (try simp only [depth_under_make, depth_under_kw, depth_in1, depth_deeper, depth_caller]); (try dsimp only [Mine.ktrX]); omega) | ((try dsimp only [Mine.ktrX] at *); ktr_room)); (case k8 => first | ((try dsimp only [Mine.ktrX]); (try simp only [units_in1, units_deeper, Around.mark_units, units_caller]); (try dsimp only [Mine.ktrX]); omega) | ((try dsimp only [Mine.ktrX] at *); ktr_units)); (case m1 => first | assumption | exact List.Mem.head _ | exact .tail _ (by assumption) | exact .tail _ (.head _) | exact .tail _ (.tail _ (by assumption)) | exact .tail _ (.tail _ (.head _)) | exact .tail _ (.tail _ (.tail _ (by assumption))) | exact .tail _ (.tail _ (.tail _ (.head _))) | exact .tail _ (.tail _ (.tail _ (.tail _ (by assumption)))) | exact .tail _ (.tail _ (.tail _ (.tail _ (.head _)))) | exact .tail _ (.tail _ (.tail _ (.tail _ (.tail _ (by assumption))))) | exact .tail _ (.tail _ (.tail _ (.tail _ (.tail _ (.head _))))) | exact .tail _ (.tail _ (.tail _ (.tail _ (.tail _ (.tail _ (by assumption)))))) | exact .tail _ (.tail _ (.tail _ (.tail _ (.tail _ (.tail _ (.head _)))))) | exact .tail _ (.tail _ (.tail _ (.tail _ (.tail _ (.tail _ (.tail _ (by assumption))))))) | exact .tail _ (.tail _ (.tail _ (.tail _ (.tail _ (.tail _ (.tail _ (.head _))))))) | k_mem); (all_goals skip); (first | assumption | k_mem | omega | rotate_left); (first | assumption | k_mem | omega | rotate_left); (first | assumption | k_mem | omega | rotate_left)); intro D9 t9 u9 v9 x9 h9 tk9 F9 N9; (try dsimp only); (try k_fold)))
local macro_rules | `(tactic| walk_at "call ref") => `(tactic| (k_here; (with_reducible show wpAny _ _ (call (Value.ref 102) _) _ _ _); k_dflt (refine' Mine.Ctr.use (Mine.c_abs0 _ _ _ _ _ _ ?_) ?k1 ?k2 ?k3 ?k4 ?k5 ?k6 ?k7 ?k8 ?k9 ?_; (case k1 => k_asm); (case k2 => k_asm); (case k3 => k_asm); (case k4 => k_asm); (case k5 => k_asm); (case k9 => first | assumption | exact Mine.CalmN.sub (by assumption) (by first | exact fun _ h => h | exact fun _ h => .tail _ h | exact fun _ h => .tail _ (.tail _ h) | exact fun _ h => .tail _ (.tail _ (.tail _ h)) | exact fun _ h => .tail _ (.tail _ (.tail _ (.tail _ h))) | exact fun _ h => .tail _ (.tail _ (.tail _ (.tail _ (.tail _ h)))) | exact fun _ h => .tail _ (.tail _ (.tail _ (.tail _ (.tail _ (.tail _ h))))) | exact fun _ h => .tail _ (.tail _ (.tail _ (.tail _ (.tail _ (.tail _ (.tail _ h)))))) | exact fun _ h => .tail _ (.tail _ (.tail _ (.tail _ (.tail _ (.tail _ (.tail _ (.tail _ h))))))) | exact fun _ h => .tail _ (.tail _ (.tail _ (.tail _ (.tail _ (.tail _ (.tail _ (.tail _ (.tail _ h)))))))) | exact fun _ h => .tail _ (.tail _ (.tail _ (.tail _ (.tail _ (.tail _ (.tail _ (.tail _ (.tail _ (.tail _ h))))))))) | exact fun _ h => .tail _ (.tail _ (.tail _ (.tail _ (.tail _ (.tail _ (.tail _ (.tail _ (.tail _ (.tail _ (.tail _ h)))))))))) | exact fun _ h => .tail _ (.tail _ (.tail _ (.tail _ (.tail _ (.tail _ (.tail _ (.tail _ (.tail _ (.tail _ (.tail _ (.tail _ h))))))))))) | exact fun _ h => .tail _ (.tail _ (.tail _ (.tail _ (.tail _ (.tail _ (.tail _ (.tail _ (.tail _ (.tail _ (.tail _ (.tail _ (.tail _ h)))))))))))) | exact fun _ h => .tail _ (.tail _ (.tail _ (.tail _ (.tail _ (.tail _ (.tail _ (.tail _ (.tail _ (.tail _ (.tail _ (.tail _ (.tail _ (.tail _ h))))))))))))) | exact fun _ h => .tail _ (.tail _ (.tail _ (.tail _ (.tail _ (.tail _ (.tail _ (.tail _ (.tail _ (.tail _ (.tail _ (.tail _ (.tail _ (.tail _ (.tail _ h))))))))))))))) | exact Or.inl rfl); (case k6 => first | exact rfl | assumption); (case k7 => first | ((try dsimp only [Mine.ktrX]); (try simp only [depth_under_make, depth_under_kw, depth_in1, depth_deeper, depth_caller]); (try dsimp only [Mine.ktrX]); omega) | ((try dsimp only [Mine.ktrX] at *); ktr_room)); (case k8 => first | ((try dsimp only [Mine.ktrX]); (try simp only [units_in1, units_deeper, Around.mark_units, units_caller]); (try dsimp only [Mine.ktrX]); omega) | ((try dsimp only [Mine.ktrX] at *); ktr_units)); (first | assumption | k_mem | omega | rotate_left)); intro h9 tk9 F9 N9; (try dsimp only); (try k_fold)))
local macro_rules | `(tactic| walk_at "call ref") => `(tactic| (k_here; (with_reducible show wpAny _ _ (call (Value.ref 133) _) _ _ _); k_dflt (refine' Mine.Ctr.use (Mine.c_sqrt _ _ _ _ _ _ _ _ _ _ _ _ _ ?m1 ?_ ?_ ?_ ?_) ?k1 ?k2 ?k3 ?k4 ?k5 ?k6 ?k7 ?k8 ?k9 ?_; (case k1 => k_asm); (case k2 => k_asm); (case k3 => k_asm); (case k4 => k_asm); (case k5 => k_asm); (case k9 => first | assumption | exact Mine.CalmN.sub (by assumption) (by first | exact fun _ h => h | exact fun _ h => .tail _ h | exact fun _ h => .tail _ (.tail _ h) | exact fun _ h => .tail _ (.tail _ (.tail _ h)) | exact fun _ h => .tail _ (.tail _ (.tail _ (.tail _ h))) | exact fun _ h => .tail _ (.tail _ (.tail _ (.tail _ (.tail _ h)))) | exact fun _ h => .tail _ (.tail _ (.tail _ (.tail _ (.tail _ (.tail _ h))))) | exact fun _ h => .tail _ (.tail _ (.tail _ (.tail _ (.tail _ (.tail _ (.tail _ h)))))) | exact fun _ h => .tail _ (.tail _ (.tail _ (.tail _ (.tail _ (.tail _ (.tail _ (.tail _ h))))))) | exact fun _ h => .tail _ (.tail _ (.tail _ (.tail _ (.tail _ (.tail _ (.tail _ (.tail _ (.tail _ h)))))))) | exact fun _ h => .tail _ (.tail _ (.tail _ (.tail _ (.tail _ (.tail _ (.tail _ (.tail _ (.tail _ (.tail _ h))))))))) | exact fun _ h => .tail _ (.tail _ (.tail _ (.tail _ (.tail _ (.tail _ (.tail _ (.tail _ (.tail _ (.tail _ (.tail _ h)))))))))) | exact fun _ h => .tail _ (.tail _ (.tail _ (.tail _ (.tail _ (.tail _ (.tail _ (.tail _ (.tail _ (.tail _ (.tail _ (.tail _ h))))))))))) | exact fun _ h => .tail _ (.tail _ (.tail _ (.tail _ (.tail _ (.tail _ (.tail _ (.tail _ (.tail _ (.tail _ (.tail _ (.tail _ (.tail _ h)))))))))))) | exact fun _ h => .tail _ (.tail _ (.tail _ (.tail _ (.tail _ (.tail _ (.tail _ (.tail _ (.tail _ (.tail _ (.tail _ (.tail _ (.tail _ (.tail _ h))))))))))))) | exact fun _ h => .tail _ (.tail _ (.tail _ (.tail _ (.tail _ (.tail _ (.tail _ (.tail _ (.tail _ (.tail _ (.tail _ (.tail _ (.tail _ (.tail _ (.tail _ h))))))))))))))) | exact Or.inl rfl); (case k6 => first | exact rfl | assumption); (case k7 => first | ((try dsimp only [Mine.ktrX]); (try simp only [depth_under_make, depth_under_kw, depth_in1, depth_deeper, depth_caller]); (try dsimp only [Mine.ktrX]); omega) | ((try dsimp only [Mine.ktrX] at *); ktr_room)); (case k8 => first | ((try dsimp only [Mine.ktrX]); (try simp only [units_in1, units_deeper, Around.mark_units, units_caller]); (try dsimp only [Mine.ktrX]); omega) | ((try dsimp only [Mine.ktrX] at *); ktr_units)); (case m1 => first | assumption | exact List.Mem.head _ | exact .tail _ (by assumption) | exact .tail _ (.head _) | exact .tail _ (.tail _ (by assumption)) | exact .tail _ (.tail _ (.head _)) | exact .tail _ (.tail _ (.tail _ (by assumption))) | exact .tail _ (.tail _ (.tail _ (.head _))) | exact .tail _ (.tail _ (.tail _ (.tail _ (by assumption)))) | exact .tail _ (.tail _ (.tail _ (.tail _ (.head _)))) | exact .tail _ (.tail _ (.tail _ (.tail _ (.tail _ (by assumption))))) | exact .tail _ (.tail _ (.tail _ (.tail _ (.tail _ (.head _))))) | exact .tail _ (.tail _ (.tail _ (.tail _ (.tail _ (.tail _ (by assumption)))))) | exact .tail _ (.tail _ (.tail _ (.tail _ (.tail _ (.tail _ (.head _)))))) | exact .tail _ (.tail _ (.tail _ (.tail _ (.tail _ (.tail _ (.tail _ (by assumption))))))) | exact .tail _ (.tail _ (.tail _ (.tail _ (.tail _ (.tail _ (.tail _ (.head _))))))) | k_mem); (all_goals skip); (first | assumption | k_mem | omega | rotate_left); (first | assumption | k_mem | omega | rotate_left); (first | assumption | k_mem | omega | rotate_left); (first | assumption | k_mem | omega | rotate_left)); intro D9 t9 u9 v9 x9 h9 tk9 F9 N9; (try dsimp only); (try k_fold)))
namespace Mine
open PySem.Builtin.Int (intBits)
local macro_rules | `(tactic| walk_at "compareOp Eq ref ref") => `(tactic| (k_here; (with_reducible show wpAny _ _ (compareOp CmpOp.Eq (Value.ref _) (Value.ref _)) _ _ _); k_dflt (refine Mine.eq4 (by first | exact Mine.IsT4.of_news (by k_asm) (by k_mem) | exact Mine.IsT4.of_K (by k_in)) (by first | exact Mine.IsT4.of_K (by k_in) | exact Mine.IsT4.of_news (by k_asm) (by k_mem)) (by ktr_units) ?_)))
theorem rn_pos (wy : Way) {m e p : Int} (hm : 0 < m) (hp : 1 ≤ p) : 0 < (rn wy m e p).1 := by
  unfold rn nm
  split
  · rename_i hn; exact (sM_spec (rsh_pos wy hm hp hn)).2.2
  · exact (sM_spec hm).2.2
theorem rn_bits_le (wy : Way) {m e p : Int} (hm : 0 < m) (hp : 1 ≤ p) : (intBits (rn wy m e p).1 : Int) ≤ p := by
  unfold rn nm
  split
  · rename_i hn
    have hr := rsh_range wy hm hp hn
    have hb := bits_end hp hr.1 hr.2
    dsimp only
    by_cases h1 : sM (rsh wy m ((intBits m : Int) - p)) = 1
    · rw [← hb.1 h1]; exact hp
    · rw [← hb.2 h1]; omega
  · have := bits_odd hm
    dsimp only
    omega
/-- the rounded sum of both squares -/
noncomputable def hyR (m1 e1 m2 e2 prec : Int) : Int × Int × Int := rn .d (addM (m1 * m1) (e1 + e1) (m2 * m2) (e2 + e2)) (lst (e1 + e1) (e2 + e2)) (prec + 4)
theorem hyR_pos {m1 e1 m2 e2 prec : Int} (h1 : 0 < m1) (h2 : 0 < m2) (hp : 1 ≤ prec) : 0 < (rn .d (addM (m1 * m1) (e1 + e1) (m2 * m2) (e2 + e2)) (lst (e1 + e1) (e2 + e2)) (prec + 4)).1 :=
  rn_pos .d (addM_pos (Int.mul_pos h1 h1) (Int.mul_pos h2 h2)) (by omega)
theorem hyR_bits {m1 e1 m2 e2 prec : Int} (h1 : 0 < m1) (h2 : 0 < m2) (hp : 1 ≤ prec) (hp2 : prec ≤ 900) : intBits (rn .d (addM (m1 * m1) (e1 + e1) (m2 * m2) (e2 + e2)) (lst (e1 + e1) (e2 + e2)) (prec + 4)).1 ≤ 1000 := by
  have := rn_bits_le .d (e := lst (e1 + e1) (e2 + e2)) (addM_pos (e1 := e1 + e1) (e2 := e2 + e2) (Int.mul_pos h1 h1) (Int.mul_pos h2 h2)) (p := prec + 4) (by omega)
  omega
theorem bits_sq {m : Int} (hb : intBits m ≤ 400) : intBits (m * m) ≤ 4000 := by have := bits_mul hb hb; omega
set_option maxRecDepth 100000 in
set_option maxHeartbeats 8000000 in
theorem c_hypot_pp (wy : Way) (w : World) (news : List (Addr × Obj)) (D D2 : Addr) (g1 m1 e1 g2 m2 e2 prec : Int) (t u v x t' u' v' x' y z : Tok) (hD : (D, o4 g1 m1 e1 (intBits m1) t u v x) ∈ news) (hD2 : (D2, o4 g2 m2 e2 (intBits m2) t' u' v' x') ∈ news) (hg1 : g1 = 0 ∨ g1 = 1) (hg2 : g2 = 0 ∨ g2 = 1) (h1 : 0 < m1) (h2 : 0 < m2) (ho : -50 ≤ e1 - e2 ∧ e1 - e2 ≤ 50) (hp : 1 ≤ prec) (hp2 : prec ≤ 900) (hb1 : intBits m1 ≤ 400) (hb2 : intBits m2 ≤ 400) :
    Ctr w 141 12 news [.ref D, .ref D2, .int prec y, .str wy.str z] (RetT4 news 0 (lr wy (hyR m1 e1 m2 e2 prec).1 (hyR m1 e1 m2 e2 prec).2.1 prec).1 (lr wy (hyR m1 e1 m2 e2 prec).1 (hyR m1 e1 m2 e2 prec).2.1 prec).2.1 (lr wy (hyR m1 e1 m2 e2 prec).1 (hyR m1 e1 m2 e2 prec).2.1 prec).2.2) := by
  w_top off
  dsimp only [Ctr, RetI, RetT2, RetT4, RetB, RetZ]
  k_fill
  intro pp loose mean mg mb dp un gd cn cs a ccd cl outer A₀ base h₀ L m s hxx Q E B F X N T hk hdp hu hcalm hret
  refine wpAny_call ?_
  k_dflt (refine' code_def ?k1 ?k2 ?k3 ?k4 ?k5 ?kA ?kF ?kK ?k6 ?k7 ?k8 ?k9 ?kB ?_ ?c2 ?c3 ?c4 ?c5; (case kA => exact rfl); (case kF => exact rfl); (case kK => assumption); (case k1 => k_asm); (case k2 => k_asm); (case k3 => k_asm); (case k4 => k_asm); (case k5 => k_asm); (case k6 => k_is); (case k7 => k_is); (case k8 => first | ((try dsimp only [Mine.ktrX]); (try simp only [depth_under_make, depth_under_kw, depth_in1, depth_deeper, depth_caller]); (try dsimp only [Mine.ktrX]); omega) | ((try dsimp only [Mine.ktrX] at *); ktr_room)); (case k9 => first | exact BindsTo.of_eq rfl | exact binds_K (by k_in) rfl (by k_is) rfl rfl rfl); (case c5 => decide); (case kB => exact locs rfl); (case c2 => exact rfl); (case c3 => exact rfl); (case c4 => exact rfl); k_whole; intro g' L' h' FG' F' N' B' X' T'; (try dsimp only); (try k_lift B'); (try k_fold))
  k_with_none
  repeat' (first | (k_unfold; (try dsimp only)) | walk1 | (dsimp only; walk1) | (leave1; try dsimp only) | fail "no step")
  all_goals first
    | ((with_reducible show (_ : Nat) ≤ _); first | with_reducible exact bits_sq hb1 | with_reducible exact bits_sq hb2 | with_reducible exact hyR_bits h1 h2 hp hp2 | omega)
    | ((with_reducible show (_ : Int) < _); first | with_reducible exact Int.mul_pos h1 h1 | with_reducible exact Int.mul_pos h2 h2 | with_reducible exact hyR_pos h1 h2 hp | omega)
    | (rename Fr _ _ _ _ => lF; rename News _ _ _ _ => lN; exact retT4_end hret rfl rfl rfl rfl lF lN (by k_mem) (by first | exact fun _ h => .tail _ h | exact fun _ h => h | exact fun _ h => .tail _ (.tail _ h) | exact fun _ h => .tail _ (.tail _ (.tail _ h)) | exact fun _ h => .tail _ (.tail _ (.tail _ (.tail _ h))) | exact fun _ h => .tail _ (.tail _ (.tail _ (.tail _ (.tail _ h))))))
    | (exfalso; omega)
set_option maxRecDepth 100000 in
set_option maxHeartbeats 8000000 in
theorem c_hypot_p0 (wy : Way) (w : World) (news : List (Addr × Obj)) (D : Addr) (g1 m1 e1 prec : Int) (t u v x y z : Tok) (hD : (D, o4 g1 m1 e1 (intBits m1) t u v x) ∈ news) (h1 : 0 < m1) (hp : 1 ≤ prec) (hp2 : prec ≤ 900) (hb1 : intBits m1 ≤ 400) :
    Ctr w 141 12 news [.ref D, .ref 56, .int prec y, .str wy.str z] (RetT4 news 0 (rn wy m1 e1 prec).1 (rn wy m1 e1 prec).2.1 (rn wy m1 e1 prec).2.2) := by
  w_top off
  dsimp only [Ctr, RetI, RetT2, RetT4, RetB, RetZ]
  k_fill
  intro pp loose mean mg mb dp un gd cn cs a ccd cl outer A₀ base h₀ L m s hxx Q E B F X N T hk hdp hu hcalm hret
  refine wpAny_call ?_
  k_dflt (refine' code_def ?k1 ?k2 ?k3 ?k4 ?k5 ?kA ?kF ?kK ?k6 ?k7 ?k8 ?k9 ?kB ?_ ?c2 ?c3 ?c4 ?c5; (case kA => exact rfl); (case kF => exact rfl); (case kK => assumption); (case k1 => k_asm); (case k2 => k_asm); (case k3 => k_asm); (case k4 => k_asm); (case k5 => k_asm); (case k6 => k_is); (case k7 => k_is); (case k8 => first | ((try dsimp only [Mine.ktrX]); (try simp only [depth_under_make, depth_under_kw, depth_in1, depth_deeper, depth_caller]); (try dsimp only [Mine.ktrX]); omega) | ((try dsimp only [Mine.ktrX] at *); ktr_room)); (case k9 => first | exact BindsTo.of_eq rfl | exact binds_K (by k_in) rfl (by k_is) rfl rfl rfl); (case c5 => decide); (case kB => exact locs rfl); (case c2 => exact rfl); (case c3 => exact rfl); (case c4 => exact rfl); k_whole; intro g' L' h' FG' F' N' B' X' T'; (try dsimp only); (try k_lift B'); (try k_fold))
  k_with_none
  repeat' (first | (k_unfold; (try dsimp only)) | walk1 | (dsimp only; walk1) | (leave1; try dsimp only) | fail "no step")
  all_goals first
    | (rename Fr _ _ _ _ => lF; rename News _ _ _ _ => lN; exact retT4_end hret rfl rfl rfl rfl lF lN (by k_mem) (by first | exact fun _ h => .tail _ h | exact fun _ h => h | exact fun _ h => .tail _ (.tail _ h) | exact fun _ h => .tail _ (.tail _ (.tail _ h)) | exact fun _ h => .tail _ (.tail _ (.tail _ (.tail _ h))) | exact fun _ h => .tail _ (.tail _ (.tail _ (.tail _ (.tail _ h))))))
    | (exfalso; omega)
set_option maxRecDepth 100000 in
set_option maxHeartbeats 8000000 in
theorem c_hypot_0p (wy : Way) (w : World) (news : List (Addr × Obj)) (D : Addr) (g1 m1 e1 prec : Int) (t u v x y z : Tok) (hD : (D, o4 g1 m1 e1 (intBits m1) t u v x) ∈ news) (h1 : 0 < m1) (hp : 1 ≤ prec) (hp2 : prec ≤ 900) (hb1 : intBits m1 ≤ 400) :
    Ctr w 141 12 news [.ref 56, .ref D, .int prec y, .str wy.str z] (RetT4 news 0 (rn wy m1 e1 prec).1 (rn wy m1 e1 prec).2.1 (rn wy m1 e1 prec).2.2) := by
  w_top off
  dsimp only [Ctr, RetI, RetT2, RetT4, RetB, RetZ]
  k_fill
  intro pp loose mean mg mb dp un gd cn cs a ccd cl outer A₀ base h₀ L m s hxx Q E B F X N T hk hdp hu hcalm hret
  refine wpAny_call ?_
  k_dflt (refine' code_def ?k1 ?k2 ?k3 ?k4 ?k5 ?kA ?kF ?kK ?k6 ?k7 ?k8 ?k9 ?kB ?_ ?c2 ?c3 ?c4 ?c5; (case kA => exact rfl); (case kF => exact rfl); (case kK => assumption); (case k1 => k_asm); (case k2 => k_asm); (case k3 => k_asm); (case k4 => k_asm); (case k5 => k_asm); (case k6 => k_is); (case k7 => k_is); (case k8 => first | ((try dsimp only [Mine.ktrX]); (try simp only [depth_under_make, depth_under_kw, depth_in1, depth_deeper, depth_caller]); (try dsimp only [Mine.ktrX]); omega) | ((try dsimp only [Mine.ktrX] at *); ktr_room)); (case k9 => first | exact BindsTo.of_eq rfl | exact binds_K (by k_in) rfl (by k_is) rfl rfl rfl); (case c5 => decide); (case kB => exact locs rfl); (case c2 => exact rfl); (case c3 => exact rfl); (case c4 => exact rfl); k_whole; intro g' L' h' FG' F' N' B' X' T'; (try dsimp only); (try k_lift B'); (try k_fold))
  k_with_none
  repeat' (first | (k_unfold; (try dsimp only)) | walk1 | (dsimp only; walk1) | (leave1; try dsimp only) | fail "no step")
  all_goals first
    | (rename Fr _ _ _ _ => lF; rename News _ _ _ _ => lN; exact retT4_end hret rfl rfl rfl rfl lF lN (by k_mem) (by first | exact fun _ h => .tail _ h | exact fun _ h => h | exact fun _ h => .tail _ (.tail _ h) | exact fun _ h => .tail _ (.tail _ (.tail _ h)) | exact fun _ h => .tail _ (.tail _ (.tail _ (.tail _ h))) | exact fun _ h => .tail _ (.tail _ (.tail _ (.tail _ (.tail _ h))))))
    | (exfalso; omega)
set_option maxRecDepth 100000 in
set_option maxHeartbeats 8000000 in
theorem c_hypot_00 (wy : Way) (w : World) (news : List (Addr × Obj)) (prec : Int) (y z : Tok) (hp : 1 ≤ prec) :
    Ctr w 141 12 news [.ref 56, .ref 56, .int prec y, .str wy.str z] (RetZ news) := by
  w_top off
  dsimp only [Ctr, RetI, RetT2, RetT4, RetB, RetZ]
  k_fill
  intro pp loose mean mg mb dp un gd cn cs a ccd cl outer A₀ base h₀ L m s hxx Q E B F X N T hk hdp hu hcalm hret
  refine wpAny_call ?_
  k_dflt (refine' code_def ?k1 ?k2 ?k3 ?k4 ?k5 ?kA ?kF ?kK ?k6 ?k7 ?k8 ?k9 ?kB ?_ ?c2 ?c3 ?c4 ?c5; (case kA => exact rfl); (case kF => exact rfl); (case kK => assumption); (case k1 => k_asm); (case k2 => k_asm); (case k3 => k_asm); (case k4 => k_asm); (case k5 => k_asm); (case k6 => k_is); (case k7 => k_is); (case k8 => first | ((try dsimp only [Mine.ktrX]); (try simp only [depth_under_make, depth_under_kw, depth_in1, depth_deeper, depth_caller]); (try dsimp only [Mine.ktrX]); omega) | ((try dsimp only [Mine.ktrX] at *); ktr_room)); (case k9 => first | exact BindsTo.of_eq rfl | exact binds_K (by k_in) rfl (by k_is) rfl rfl rfl); (case c5 => decide); (case kB => exact locs rfl); (case c2 => exact rfl); (case c3 => exact rfl); (case c4 => exact rfl); k_whole; intro g' L' h' FG' F' N' B' X' T'; (try dsimp only); (try k_lift B'); (try k_fold))
  k_with_none
  repeat' (first | (k_unfold; (try dsimp only)) | walk1 | (dsimp only; walk1) | (leave1; try dsimp only) | fail "no step")
  all_goals first
    | (rename Fr _ _ _ _ => lF; rename News _ _ _ _ => lN; exact retZ_end hret lF lN (by first | exact fun _ h => .tail _ h | exact fun _ h => h | exact fun _ h => .tail _ (.tail _ h) | exact fun _ h => .tail _ (.tail _ (.tail _ h)) | exact fun _ h => .tail _ (.tail _ (.tail _ (.tail _ h))) | exact fun _ h => .tail _ (.tail _ (.tail _ (.tail _ (.tail _ h))))))
    | (exfalso; omega)
end Mine

end
namespace Mine
open PySem.Builtin.Int (intBits)
/-- what holds of the law's found bits after k turns -/
def RInv (whole power most P : Int) (k : Nat) (found : Int) : Prop :=
  0 ≤ found ∧ found + 2 ^ (most - k).toNat ≤ 2 ^ most.toNat ∧ 0 ≤ lessv (found * found) (2 * P) whole power ∧ lessv ((found + 2 ^ (most - k).toNat) * (found + 2 ^ (most - k).toNat)) (2 * P) whole power < 0
section
variable {whole power most : Int}
theorem place_facts (whole power most : Int) : 2 * (((intBits whole : Int) + power + 1).fdiv 2 - most) + 2 * most ≤ (intBits whole : Int) + power + 1 ∧ (intBits whole : Int) + power ≤ 2 * (((intBits whole : Int) + power + 1).fdiv 2 - most) + 2 * most := by
  have ⟨_, f1, f2, _⟩ := fdiv_fmod_facts ((intBits whole : Int) + power + 1) 2
  have f2 := f2 (by decide)
  omega
theorem rinv_start (hw : 0 < whole) (hm : 1 ≤ most) : RInv whole power most (((intBits whole : Int) + power + 1).fdiv 2 - most) 0 0 := by
  have ⟨p1, p2⟩ := place_facts whole power most
  generalize ((intBits whole : Int) + power + 1).fdiv 2 - most = P at *
  have hK1 : min power (2 * P) ≤ power := by omega
  have hK2 : min power (2 * P) ≤ 2 * P := by omega
  generalize min power (2 * P) = K at hK1 hK2
  have b2 := lt_pow_bits (Int.le_of_lt hw)
  refine ⟨Int.le_refl _, by simp, ?_, ?_⟩
  · rw [(less_sign hK2 hK1).1]
    have := Int.mul_pos hw (pow2_pos (power - K).toNat)
    rw [Int.zero_mul, Int.zero_mul]
    omega
  · rw [(less_sign hK2 hK1).2.1, Int.zero_add, ← Int.pow_add, ← Int.pow_add]
    have c := Int.mul_lt_mul_of_pos_right b2 (pow2_pos (power - K).toNat)
    rw [← Int.pow_add] at c
    have : (2:Int) ^ (intBits whole + (power - K).toNat) ≤ 2 ^ ((most - ((0 : Nat) : Int)).toNat + (most - ((0 : Nat) : Int)).toNat + (2 * P - K).toNat) := pow2_mono (by omega)
    omega
theorem rinv_step {P : Int} {k : Nat} {found : Int} (hk : (k : Int) < most) (h : RInv whole power most P k found) :
    (0 ≤ lessv ((found + 2 ^ (most - 1 - k).toNat) * (found + 2 ^ (most - 1 - k).toNat)) (2 * P) whole power → RInv whole power most P (k + 1) (found + 2 ^ (most - 1 - k).toNat)) ∧
    (¬ 0 ≤ lessv ((found + 2 ^ (most - 1 - k).toNat) * (found + 2 ^ (most - 1 - k).toNat)) (2 * P) whole power → RInv whole power most P (k + 1) found) := by
  obtain ⟨h1, h2, h3, h4⟩ := h
  have e1 : (most - ((k + 1 : Nat) : Int)).toNat = (most - 1 - k).toNat := by omega
  have e2 : (2:Int) ^ (most - k).toNat = 2 * 2 ^ (most - 1 - k).toNat := by
    rw [show (most - k).toNat = (most - 1 - k).toNat + 1 by omega, Int.pow_succ]; omega
  have hp := pow2_pos (most - 1 - k).toNat
  unfold RInv
  rw [e1]
  rw [e2] at h2 h4
  generalize (2:Int) ^ (most - 1 - k).toNat = d at *
  refine ⟨fun h => ⟨by omega, by omega, h, ?_⟩, fun h => ⟨h1, by omega, h3, by omega⟩⟩
  rw [show found + d + d = found + 2 * d by omega]
  exact h4
theorem rinv_root {P found : Int} {k : Nat} (hw : 0 < whole) (hm : 1 ≤ most) (hk : (k : Int) = most) (hP : P = ((intBits whole : Int) + power + 1).fdiv 2 - most) (h : RInv whole power most P k found) : IsRoot whole power most found P := by
  obtain ⟨h1, h2, h3, h4⟩ := h
  have ⟨p1, p2⟩ := place_facts whole power most
  rw [← hP] at p1 p2
  rw [show (most - k).toNat = 0 by omega] at h2 h4
  have e0 : (2:Int) ^ 0 = 1 := rfl
  rw [e0] at h2 h4
  refine ⟨?_, by omega, h3, h4⟩
  have hK1 : min power (2 * P) ≤ power := by omega
  have hK2 : min power (2 * P) ≤ 2 * P := by omega
  generalize min power (2 * P) = K at hK1 hK2
  rw [(less_sign hK2 hK1).2.1] at h4
  have b1 := bits_lo hw
  have b3 := bits_pos hw
  have c := Int.mul_le_mul_of_nonneg_right b1 (Int.le_of_lt (pow2_pos (power - K).toNat))
  rw [← Int.pow_add] at c
  rcases (show (2:Int) ^ (most - 1).toNat ≤ found ∨ found + 1 ≤ 2 ^ (most - 1).toNat by omega) with h | h
  · exact h
  · have a := Int.mul_le_mul_of_nonneg_right (sq_le_sq (by omega) h) (Int.le_of_lt (pow2_pos (2 * P - K).toNat))
    rw [← Int.pow_add, ← Int.pow_add] at a
    have : (2:Int) ^ ((most - 1).toNat + (most - 1).toNat + (2 * P - K).toNat) ≤ 2 ^ (intBits whole - 1 + (power - K).toNat) := pow2_mono (by omega)
    omega
end
end Mine

namespace Mine
open PySem.Builtin.Int (intBits)
theorem str_n (wy : Way) : (wy.str == Str.ofString "n") = true ↔ wy = .n := by
  cases wy with
  | n => rw [Way.str_n]; exact ⟨fun _ => rfl, fun _ => by decide⟩
  | f => rw [Way.str_f]; exact ⟨fun h => absurd h (by decide), fun h => nomatch h⟩
  | c => rw [Way.str_c]; exact ⟨fun h => absurd h (by decide), fun h => nomatch h⟩
  | u => rw [Way.str_u]; exact ⟨fun h => absurd h (by decide), fun h => nomatch h⟩
  | d => rw [Way.str_d]; exact ⟨fun h => absurd h (by decide), fun h => nomatch h⟩
theorem any_uc (wy : Way) : ([Str.ofString "u", Str.ofString "c"].any fun x => x == wy.str) = true ↔ wy = .u ∨ wy = .c := by
  cases wy with
  | n => rw [Way.str_n]; exact ⟨fun h => absurd h (by decide), fun h => h.elim (fun h => nomatch h) (fun h => nomatch h)⟩
  | f => rw [Way.str_f]; exact ⟨fun h => absurd h (by decide), fun h => h.elim (fun h => nomatch h) (fun h => nomatch h)⟩
  | c => rw [Way.str_c]; exact ⟨fun _ => .inr rfl, fun _ => by decide⟩
  | u => rw [Way.str_u]; exact ⟨fun _ => .inl rfl, fun _ => by decide⟩
  | d => rw [Way.str_d]; exact ⟨fun h => absurd h (by decide), fun h => h.elim (fun h => nomatch h) (fun h => nomatch h)⟩
theorem pow_two' (a : Int) : a ^ Int.toNat 2 = a * a := by
  rw [show Int.toNat 2 = 2 by rfl, Int.pow_succ, Int.pow_succ, Int.pow_zero, Int.one_mul]
theorem fmod_two (a : Int) : a.fmod 2 = a % 2 := by rw [Int.fmod_eq_emod_of_nonneg _ (by decide)]
section
variable {wy : Way} {f P whole power most : Int}
theorem up_n1 (hn : (wy.str == Str.ofString "n") = true) (h : 0 < lessv ((2 * f + 1) ^ Int.toNat 2) (2 * P) whole (power + 2)) : lrUp wy f P whole power = 1 := by
  rw [(str_n wy).mp hn]; rw [pow_two'] at h; exact if_pos (.inl h)
theorem up_n2 (hn : (wy.str == Str.ofString "n") = true) (h : lessv ((2 * f + 1) ^ Int.toNat 2) (2 * P) whole (power + 2) = 0) (ho : f.fmod 2 = 1) : lrUp wy f P whole power = 1 := by
  rw [(str_n wy).mp hn]; rw [pow_two'] at h; rw [fmod_two] at ho; exact if_pos (.inr ⟨h, ho⟩)
theorem up_n3 (hn : (wy.str == Str.ofString "n") = true) (h : ¬ 0 < lessv ((2 * f + 1) ^ Int.toNat 2) (2 * P) whole (power + 2)) (ho : f.fmod 2 ≠ 1) : lrUp wy f P whole power = 0 := by
  rw [(str_n wy).mp hn]; rw [pow_two'] at h; rw [fmod_two] at ho; exact if_neg (fun c => c.elim h (fun c => ho c.2))
theorem up_n4 (hn : (wy.str == Str.ofString "n") = true) (h : ¬ 0 < lessv ((2 * f + 1) ^ Int.toNat 2) (2 * P) whole (power + 2)) (h0 : lessv ((2 * f + 1) ^ Int.toNat 2) (2 * P) whole (power + 2) ≠ 0) : lrUp wy f P whole power = 0 := by
  rw [(str_n wy).mp hn]; rw [pow_two'] at h h0; exact if_neg (fun c => c.elim h (fun c => h0 c.1))
theorem not_n (hn : (wy.str == Str.ofString "n") = false) : wy ≠ .n := fun e => by rw [(str_n wy).mpr e] at hn; cases hn
theorem up_c1 (h : 0 < lessv (f * f) (2 * P) whole power) (hi : ([Str.ofString "u", Str.ofString "c"].any fun x => x == wy.str) = true) : lrUp wy f P whole power = 1 := by
  rcases (any_uc wy).mp hi with rfl | rfl <;> exact if_pos h
theorem up_c2 (hn : (wy.str == Str.ofString "n") = false) (h : ¬ 0 < lessv (f * f) (2 * P) whole power) : lrUp wy f P whole power = 0 := by
  have := not_n hn
  cases wy with
  | n => exact absurd rfl this
  | f => rfl
  | d => rfl
  | c => exact if_neg h
  | u => exact if_neg h
theorem up_c3 (hn : (wy.str == Str.ofString "n") = false) (hi : ([Str.ofString "u", Str.ofString "c"].any fun x => x == wy.str) = false) : lrUp wy f P whole power = 0 := by
  have := not_n hn
  have h2 : ¬ (wy = .u ∨ wy = .c) := fun e => by rw [(any_uc wy).mpr e] at hi; cases hi
  cases wy with
  | n => exact absurd rfl this
  | f => rfl
  | d => rfl
  | c => exact absurd (.inr rfl) h2
  | u => exact absurd (.inl rfl) h2
theorem root_up (hw : 0 < whole) (hm : 1 ≤ most) (hr : IsRoot whole power most f P) (hu : lrUp wy f P whole power = 1) : Is3 (lr wy whole power most) (sM (f + 1)) (P + tz (f + 1)) (intBits (sM (f + 1))) := by
  rw [lr_of hw hm hr, hu]; exact ⟨rfl, rfl, rfl⟩
theorem root_dn (hw : 0 < whole) (hm : 1 ≤ most) (hr : IsRoot whole power most f P) (hu : lrUp wy f P whole power = 0) : Is3 (lr wy whole power most) (sM f) (P + tz f) (intBits (sM f)) := by
  rw [lr_of hw hm hr, hu, Int.add_zero]; exact ⟨rfl, rfl, rfl⟩
theorem rstep_yes {pre : List Int} {n : Int} (he : n = 0 + (pre.length : Int)) (hl : pre.length < (most - 0).toNat) (h : RInv whole power most P pre.length f) (hc : 0 ≤ lessv ((f + 2 ^ (most - 1 - n).toNat) * (f + 2 ^ (most - 1 - n).toNat)) (2 * P) whole power) : RInv whole power most P (pre ++ [n]).length (f + 2 ^ (most - 1 - n).toNat) := by
  have e : n = pre.length := by omega
  subst e
  rw [List.length_append]
  exact (rinv_step (by omega) h).1 hc
theorem rstep_no {pre : List Int} {n : Int} (he : n = 0 + (pre.length : Int)) (hl : pre.length < (most - 0).toNat) (h : RInv whole power most P pre.length f) (hc : ¬ 0 ≤ lessv ((f + 2 ^ (most - 1 - n).toNat) * (f + 2 ^ (most - 1 - n).toNat)) (2 * P) whole power) : RInv whole power most P (pre ++ [n]).length f := by
  have e : n = pre.length := by omega
  subst e
  rw [List.length_append]
  exact (rinv_step (by omega) h).2 hc
theorem bits_of_le {x : Int} {k : Nat} (h0 : 0 ≤ x) (h : x ≤ 2 ^ k) : intBits x ≤ k + 1 := by
  obtain ⟨n, rfl⟩ := Int.eq_ofNat_of_zero_le h0
  refine intBits_le ?_
  have h' : n ≤ 2 ^ k := by exact_mod_cast h
  show n < 2 ^ (k + 1)
  rw [Nat.pow_succ]
  have := Nat.pow_pos (n := k) (show 0 < 2 by decide)
  omega
theorem rinv_more {pre : List Int} {n : Int} (hm : most ≤ 100) (he : n = 0 + (pre.length : Int)) (hl : pre.length < (most - 0).toNat) (h : RInv whole power most P pre.length f) : intBits (f + 2 ^ (most - 1 - n).toNat) ≤ 101 ∧ (0 ≤ most - 1 - n ∧ (intBits 2 : Int) * (most - 1 - n) ≤ 2 ^ 27) := by
  have e : n = pre.length := by omega
  subst e
  obtain ⟨h1, h2, _, _⟩ := h
  have hp := pow2_pos (most - 1 - (pre.length : Int)).toNat
  have e2 : (2:Int) ^ (most - pre.length).toNat = 2 * 2 ^ (most - 1 - pre.length).toNat := by
    rw [show (most - (pre.length : Int)).toNat = (most - 1 - pre.length).toNat + 1 by omega, Int.pow_succ]; omega
  have hb := bits_of_le (x := f + 2 ^ (most - 1 - (pre.length : Int)).toNat) (k := most.toNat) (by omega) (by omega)
  refine ⟨by omega, by omega, ?_⟩
  rw [show intBits 2 = 2 by decide]; omega
theorem root_sizes (hm : 1 ≤ most) (hm2 : most ≤ 100) (h : IsRoot whole power most f P) : 0 < f ∧ intBits f ≤ 101 ∧ intBits (2 * f + 1) ≤ 104 := by
  have h0 : 0 < f := Int.lt_of_lt_of_le (pow2_pos _) h.1
  have hb := bits_of_le (x := f) (k := most.toNat) (Int.le_of_lt h0) (Int.le_of_lt h.2.1)
  refine ⟨h0, by omega, ?_⟩
  rw [bits_two h0]; omega
end
theorem sq_bits {a : Int} (h : intBits a ≤ 104) : intBits (a * a) ≤ 4000 ∧ IntMulOk a a ∧ intBits (a ^ Int.toNat 2) ≤ 4000 ∧ (intBits a : Int) * 2 ≤ 2 ^ 27 := by
  have hb := bits_mul h h
  refine ⟨by omega, mulOk_of_bits h h (by decide), ?_, by omega⟩
  rw [pow_two']; omega
end Mine

namespace Mine
open PySem PyProof.Rows PySem.W
/-- the end of a turn of the loop -/
def TurnEnd (h₀ : Heap) (L : Addr) (led : List (Addr × Obj)) (J : (Str → Option Value) → Prop) (s₁ : Shared) (f : Flow) (s₂ : Shared) : Prop :=
  f = .next ∧ ∃ h' tk m', s₂ = { s₁ with heap := h', toks := tk } ∧ Fr h₀ L h' m' ∧ News h₀ L h' led ∧ J m'
theorem turn_end {h₀ h' : Heap} {L : Addr} {led news' : List (Addr × Obj)} {J : (Str → Option Value) → Prop} {s₁ : Shared} {m' : Str → Option Value} {tk : Nat} (F : Fr h₀ L h' m') (N : News h₀ L h' news') (hs : ∀ p ∈ led, p ∈ news') (hJ : J m') :
    TurnEnd h₀ L led J s₁ .next { s₁ with heap := h', toks := tk } := ⟨rfl, h', tk, m', rfl, F, fun p hp => N p (hs p hp), hJ⟩
section
variable {prog : Program} {w : World} {A : Around} {E : Value → Shared → Prop} {s : Shared} {h₀ : Heap} {env : Env} {x y z : Str} {body : List Stmt} {Q : Flow → Shared → Prop}
/-- a loop over a range that turns one int, whatever is handled -/
theorem root_loop {r : Addr} {b₀ : Int} {t₀ u₀ v₀ : Tok} {m₀ : Str → Option Value} {news : List (Addr × Obj)} {hx : Option Value} {n : Nat} (P : Nat → Int → Prop) {c₀ : Int} {tc₀ : Tok} (hA : A.handled = hx) (hC : CalmN hx news)
    (hr : IsRange s.heap r 0 b₀ 1 t₀ u₀ v₀) (hsm : Builtin.Range.small 0 b₀ 1 = true) (hn : Builtin.Range.rangeSize 0 b₀ 1 = (n : Int)) (F : Fr h₀ env.locals s.heap m₀) (N : News h₀ env.locals s.heap news) (hy : m₀ y = some (.int c₀ tc₀)) (hyx : y ≠ x) (hp : P 0 c₀)
    (turn : ∀ (i : Nat) (c : Int) t tc (u : Option Value) h tk led, i < n → P i c → CalmN hx led → Fr h₀ env.locals h (fun q => if q = x then some (.int i t) else if q = y then some (.int c tc) else if q = z then u else m₀ q) → News h₀ env.locals h led →
      wpAny (model prog w) A (execs body env) (TurnEnd h₀ env.locals led (fun m' => ∃ c' tc', m' y = some (.int c' tc') ∧ (∀ q, q ≠ x → q ≠ y → q ≠ z → m' q = m₀ q) ∧ P (i + 1) c') { s with heap := h, toks := tk }) E { s with heap := h, toks := tk })
    (done : ∀ (c : Int) tc (u u' : Option Value) h tk, P n c → Fr h₀ env.locals h (fun q => if q = x then u' else if q = y then some (.int c tc) else if q = z then u else m₀ q) → News h₀ env.locals h news → Q .next { s with heap := h, toks := tk }) :
    wpAny (model prog w) A (pyIter (.ref r)) (fun it s₂ => LoopAtV prog w A h₀ env x body Q E it s₂) E s := by
  subst hA
  have C := hC.at N (fun _ h => h)
  refine wpAny_pyIter_range hr hsm ?_
  have hel : ∀ e, A.handled = some (.ref e) → e ≠ s.heap.objs.size ∧ e ≠ env.locals := fun e he => by
    rcases hC with hh | ⟨e', oe, ve, h1, h2, _⟩
    · rw [hh] at he; cases he
    · rw [h1] at he; cases he; exact ⟨Nat.ne_of_lt (Heap.lt_size (N _ h2).1), (N _ h2).2.1⟩
  have hmap : ∀ (m₁ : Str → Option Value) c tc, m₁ y = some (.int c tc) → (∀ q, q ≠ x → q ≠ y → q ≠ z → m₁ q = m₀ q) → ∀ v : Option Value,
      (fun q => if q = x then v else m₁ q) = (fun q => if q = x then v else if q = y then some (.int c tc) else if q = z then m₁ z else m₀ q) := fun m₁ c tc h1 h2 v => by
    funext q
    by_cases e1 : q = x
    · rw [if_pos e1, if_pos e1]
    · rw [if_neg e1, if_neg e1]
      by_cases e2 : q = y
      · rw [if_pos e2, e2, h1]
      · rw [if_neg e2]
        by_cases e3 : q = z
        · rw [if_pos e3, e3]
        · rw [if_neg e3, h2 q e1 e2 e3]
  have W' : Walks prog w A s.heap.objs.size ([s.heap.objs.size] ++ exA A.handled) [s.heap.objs.size] n (fun i v => i < n ∧ ∃ t, v = .int i t) (fun i h => IsRangeIter h s.heap.objs.size (0 + (i : Nat) * 1) ((n : Int) - (i : Nat)) 1 ∧ Calm A.handled h) := by
    have W := walks_range (A := A) (prog := prog) (w := w) s.heap.objs.size (fun e he => (hel e he).1) 0 1 n
    exact { sub := W.sub, frame := W.frame, done := W.done, self := W.self,
            item := fun i s Q E hi st hQ => W.item i s Q E hi st fun v h' tk ⟨t, e⟩ => hQ v h' tk ⟨hi, t, by rw [e]; congr 1; omega⟩ }
  refine ⟨_, _, _, n, _, _, m₀, news, fun i m₁ nx => nx = news ∧ ∃ c tc, m₁ y = some (.int c tc) ∧ (∀ q, q ≠ x → q ≠ y → q ≠ z → m₁ q = m₀ q) ∧ P i c, rfl, W', ?_, ?_, ?_, ⟨?_, C.push _⟩, F.push _, fun p hp => ⟨Heap.get?_push_of_some _ (N p hp).1, (N p hp).2⟩, ⟨rfl, c₀, tc₀, hy, fun _ _ _ _ => rfl, hp⟩, ?_, ?_⟩
  · intro hm
    rcases List.mem_append.mp hm with hm | hm
    · exact absurd F.ns.lt ((List.mem_singleton.mp hm) ▸ Nat.lt_irrefl _)
    · have : A.handled = some (.ref env.locals) := by
        revert hm
        rcases hq : A.handled with _ | v
        · intro h; cases h
        · cases v <;> intro h <;> first | (cases h; done) | skip
          rcases List.mem_cons.mp h with e | h
          · rw [e]
          · cases h
      exact (hel _ this).2 rfl
  · intro b hb
    rw [List.mem_singleton.mp hb]
    exact next_is_new F
  · intro p hp hI
    exact absurd (Heap.lt_size (N p hp).1) ((List.mem_singleton.mp hI) ▸ Nat.lt_irrefl _)
  · show IsRangeIter _ _ _ _ _
    rw [hn]
    simpa using Heap.get?_push_size _ rfl
  · rintro i v m₁ nx s₁ own ⟨hh', tk', rfl⟩ hi ⟨_, t, rfl⟩ ⟨rfl, c, tc, h1, h2, hp'⟩ hwr _ _ _ _ F₁ N₁
    rw [hmap m₁ c tc h1 h2] at F₁
    refine wpAny_mono (turn i c t tc _ hh' tk' (own ++ nx) hi hp' (hC.sub fun p hp => List.mem_append_right _ hp) F₁ N₁) (fun f s₂ p => ?_) fun _ _ e => e
    obtain ⟨rfl, h', tk, m', rfl, F', N', hJ⟩ := p
    exact ⟨rfl, h', tk, m', nx, rfl, F', N', hwr, rfl, hJ⟩
  · rintro h' tk m' nx F' N' _ ⟨rfl, c, tc, h1, h2, hp'⟩
    have e : m' = (fun q => if q = x then m' x else if q = y then some (.int c tc) else if q = z then m' z else m₀ q) := by
      rw [← hmap m' c tc h1 h2 (m' x)]
      funext q
      by_cases e1 : q = x
      · rw [if_pos e1, e1]
      · rw [if_neg e1]
    rw [e] at F'
    exact done c tc _ _ h' tk hp' F' N'
end
end Mine

namespace Mine
open PySem PyProof.Rows PySem.W
open PySem.Builtin.Int (intBits)
/-- the loop of the law's root -/
structure RLoop (whole power most : Int) : Prop where
  hw : 0 < whole
  hm : 1 ≤ most
  hm2 : most ≤ 100
abbrev plc (whole power most : Int) : Int := ((intBits whole : Int) + power + 1).fdiv 2 - most
structure RTurn (whole power most P i f : Int) : Prop where
  ex : ∃ k : Nat, i = k ∧ (k : Int) < most ∧ most ≤ 100 ∧ RInv whole power most P k f
theorem RTurn.sizes {whole power most P i f : Int} (h : RTurn whole power most P i f) : intBits (f + 2 ^ (most - 1 - i).toNat) ≤ 101 ∧ 0 ≤ most - 1 - i ∧ (intBits 2 : Int) * (most - 1 - i) ≤ 2 ^ 27 := by
  obtain ⟨k, rfl, hk, h100, h1, h2, _, _⟩ := h
  have hp := pow2_pos (most - 1 - (k : Int)).toNat
  have e2 : (2:Int) ^ (most - k).toNat = 2 * 2 ^ (most - 1 - k).toNat := by
    rw [show (most - (k : Int)).toNat = (most - 1 - (k : Int)).toNat + 1 by omega, Int.pow_succ]; omega
  have hb := bits_of_le (x := f + 2 ^ (most - 1 - (k : Int)).toNat) (k := most.toNat) (by omega) (by omega)
  refine ⟨by omega, by omega, ?_⟩
  rw [show intBits 2 = 2 by decide]; omega
theorem RTurn.yes {whole power most P f : Int} {i : Nat} (h : RTurn whole power most P i f) (hc : 0 ≤ lessv ((f + 2 ^ (most - 1 - i).toNat) * (f + 2 ^ (most - 1 - i).toNat)) (2 * P) whole power) : RInv whole power most P (i + 1) (f + 2 ^ (most - 1 - i).toNat) := by
  obtain ⟨k, e, hk, _, hi⟩ := h
  obtain rfl : i = k := by omega
  exact (rinv_step hk hi).1 hc
theorem RTurn.no {whole power most P f : Int} {i : Nat} (h : RTurn whole power most P i f) (hc : ¬ 0 ≤ lessv ((f + 2 ^ (most - 1 - i).toNat) * (f + 2 ^ (most - 1 - i).toNat)) (2 * P) whole power) : RInv whole power most P (i + 1) f := by
  obtain ⟨k, e, hk, _, hi⟩ := h
  obtain rfl : i = k := by omega
  exact (rinv_step hk hi).2 hc
section
variable {prog : Program} {w : World} {A : Around} {E : Value → Shared → Prop} {s : Shared} {h₀ : Heap} {env : Env} {x y z : Str} {body : List Stmt} {Q : Flow → Shared → Prop}
theorem root_range {whole power most : Int} {r : Addr} {t₀ u₀ v₀ : Tok} {m₀ : Str → Option Value} {news : List (Addr × Obj)} {hx : Option Value} {tc₀ : Tok} (HR : RLoop whole power most) (hA : A.handled = hx) (hC : CalmN hx news)
    (hr : IsRange s.heap r 0 most 1 t₀ u₀ v₀) (F : Fr h₀ env.locals s.heap m₀) (N : News h₀ env.locals s.heap news) (hy : m₀ y = some (.int 0 tc₀)) (hyx : y ≠ x)
    (turn : ∀ (i : Nat) (c : Int) t tc (u : Option Value) h tk led, RTurn whole power most (plc whole power most) i c → CalmN hx led → Fr h₀ env.locals h (fun q => if q = x then some (.int i t) else if q = y then some (.int c tc) else if q = z then u else m₀ q) → News h₀ env.locals h led →
      wpAny (model prog w) A (execs body env) (TurnEnd h₀ env.locals led (fun m' => ∃ c' tc', m' y = some (.int c' tc') ∧ (∀ q, q ≠ x → q ≠ y → q ≠ z → m' q = m₀ q) ∧ RInv whole power most (plc whole power most) (i + 1) c') { s with heap := h, toks := tk }) E { s with heap := h, toks := tk })
    (done : ∀ (c : Int) tc (u u' : Option Value) h tk, IsRoot whole power most c (plc whole power most) → Fr h₀ env.locals h (fun q => if q = x then u' else if q = y then some (.int c tc) else if q = z then u else m₀ q) → News h₀ env.locals h news → Q .next { s with heap := h, toks := tk }) :
    wpAny (model prog w) A (pyIter (.ref r)) (fun it s₂ => LoopAtV prog w A h₀ env x body Q E it s₂) E s := by
  have hm := HR.hm
  have hm2 := HR.hm2
  refine root_loop (z := z) (n := (most - 0).toNat) (fun i c => RInv whole power most (plc whole power most) i c) hA hC hr (small_one (by omega) (by omega) (by omega) (by omega)) (rangeSize_nat _ _) F N hy hyx (rinv_start HR.hw hm) (fun i c t tc u h tk led hi hP hc F' N' => ?_) (fun c tc u u' h tk hP F' N' => ?_)
  · exact turn i c t tc u h tk led ⟨i, rfl, by omega, hm2, hP⟩ hc F' N'
  · exact done c tc u u' h tk (rinv_root HR.hw hm (by omega) rfl hP) F' N'
end
end Mine

section
local macro_rules | `(tactic| walk_at "none 0") => `(tactic| fail)
local macro_rules | `(tactic| walk_at "none 1") => `(tactic| fail)
local macro_rules | `(tactic| walk_at "none 2") => `(tactic| fail)
local macro_rules | `(tactic| walk_at "none 3") => `(tactic| fail)
local macro_rules | `(tactic| walk_at "none 4") => `(tactic| fail)
local macro_rules | `(tactic| walk_at "none 5") => `(tactic| fail)
local macro_rules | `(tactic| walk_at "none 6") => `(tactic| fail)
local macro_rules | `(tactic| walk_at "none 7") => `(tactic| fail)
local macro_rules | `(tactic| walk_at "none 8") => `(tactic| fail)
local macro_rules | `(tactic| walk_at "none 9") => `(tactic| fail)
local macro_rules | `(tactic| walk_at "none 10") => `(tactic| fail)
local macro_rules | `(tactic| walk_at "none 11") => `(tactic| fail)
local macro_rules | `(tactic| walk_at "none 12") => `(tactic| fail)
local macro_rules | `(tactic| walk_at "none 13") => `(tactic| fail)
local macro_rules | `(tactic| walk_at "binaryOp LShift int int") => `(tactic| (refine PyProof.Rows.lshift_int ?_ ?_ ?_; rotate_left 2))
local macro_rules | `(tactic| walk_at "binaryOp FloorDiv int int") => `(tactic| (refine PyProof.Rows.floordiv_int (Mine.ninv_pos (by assumption)) ?_ (Or.inl (PyProof.noPylong_of_log2 (Mine.ninv_log (by assumption))))))
local macro_rules | `(tactic| walk_at "binaryOp Mult int int") => `(tactic| (refine PyProof.Rows.mul_int ?_ ?_; (try dsimp only)))
local macro_rules | `(tactic| walk_at "binaryOp Pow int int") => `(tactic| (refine PyProof.Rows.pow_int ?_ ?_ ?_; rotate_left 2; (try dsimp only)))
local macro_rules | `(tactic| walk_at "execs cons") => `(tactic| (with_reducible (refine Mine.gen_toks ?_; intro tk; refine wpAny_execs_cons ?_); (try dsimp only)))
local macro_rules | `(tactic| walk_at "execs nil") => `(tactic| (with_reducible (refine Mine.gen_toks ?_; intro tk; refine wpAny_execs_nil ?_); (try dsimp only)))
local macro_rules | `(tactic| walk_at "unpackItems ref") => `(tactic| (k_here; k_dflt (refine' Mine.unpack_calm ?kA ?kC ?k1 ?k2 ?k3 ?k5 ?_; (case kA => exact rfl); (case k1 => k_asm); (case k2 => k_asm); (case kC => first | exact Mine.CalmN.at (by assumption) (by k_asm) (by first | exact fun _ h => h | exact fun _ h => .tail _ h | exact fun _ h => .tail _ (.tail _ h) | exact fun _ h => .tail _ (.tail _ (.tail _ h)) | exact fun _ h => .tail _ (.tail _ (.tail _ (.tail _ h))) | exact fun _ h => .tail _ (.tail _ (.tail _ (.tail _ (.tail _ h)))) | exact fun _ h => .tail _ (.tail _ (.tail _ (.tail _ (.tail _ (.tail _ h))))) | exact fun _ h => .tail _ (.tail _ (.tail _ (.tail _ (.tail _ (.tail _ (.tail _ h)))))) | exact fun _ h => .tail _ (.tail _ (.tail _ (.tail _ (.tail _ (.tail _ (.tail _ (.tail _ h))))))) | exact fun _ h => .tail _ (.tail _ (.tail _ (.tail _ (.tail _ (.tail _ (.tail _ (.tail _ (.tail _ h)))))))) | exact fun _ h => .tail _ (.tail _ (.tail _ (.tail _ (.tail _ (.tail _ (.tail _ (.tail _ (.tail _ (.tail _ h))))))))) | exact fun _ h => .tail _ (.tail _ (.tail _ (.tail _ (.tail _ (.tail _ (.tail _ (.tail _ (.tail _ (.tail _ (.tail _ h)))))))))) | exact fun _ h => .tail _ (.tail _ (.tail _ (.tail _ (.tail _ (.tail _ (.tail _ (.tail _ (.tail _ (.tail _ (.tail _ (.tail _ h))))))))))) | exact fun _ h => .tail _ (.tail _ (.tail _ (.tail _ (.tail _ (.tail _ (.tail _ (.tail _ (.tail _ (.tail _ (.tail _ (.tail _ (.tail _ h)))))))))))) | exact fun _ h => .tail _ (.tail _ (.tail _ (.tail _ (.tail _ (.tail _ (.tail _ (.tail _ (.tail _ (.tail _ (.tail _ (.tail _ (.tail _ (.tail _ h))))))))))))) | exact fun _ h => .tail _ (.tail _ (.tail _ (.tail _ (.tail _ (.tail _ (.tail _ (.tail _ (.tail _ (.tail _ (.tail _ (.tail _ (.tail _ (.tail _ (.tail _ h))))))))))))))) | exact Or.inl rfl); (case k3 => kun_tup); (case k5 => exact rfl); k_whole); intro h' F' N'; (try k_sweep)))
local macro_rules | `(tactic| walk_at "assign Tuple") => `(tactic| (k_here; (with_reducible show wpAny _ _ (assign (Expr.Tuple _ _ _) _ (Value.ref _)) _ _ _); k_dflt (refine' Mine.assign_calm ?kA ?kC ?k1 ?k2 ?k3 ?k5 ?k6 ?_; (case kA => exact rfl); (case k1 => k_asm); (case k2 => k_asm); (case kC => first | exact Mine.CalmN.at (by assumption) (by k_asm) (by first | exact fun _ h => h | exact fun _ h => .tail _ h | exact fun _ h => .tail _ (.tail _ h) | exact fun _ h => .tail _ (.tail _ (.tail _ h)) | exact fun _ h => .tail _ (.tail _ (.tail _ (.tail _ h))) | exact fun _ h => .tail _ (.tail _ (.tail _ (.tail _ (.tail _ h)))) | exact fun _ h => .tail _ (.tail _ (.tail _ (.tail _ (.tail _ (.tail _ h))))) | exact fun _ h => .tail _ (.tail _ (.tail _ (.tail _ (.tail _ (.tail _ (.tail _ h)))))) | exact fun _ h => .tail _ (.tail _ (.tail _ (.tail _ (.tail _ (.tail _ (.tail _ (.tail _ h))))))) | exact fun _ h => .tail _ (.tail _ (.tail _ (.tail _ (.tail _ (.tail _ (.tail _ (.tail _ (.tail _ h)))))))) | exact fun _ h => .tail _ (.tail _ (.tail _ (.tail _ (.tail _ (.tail _ (.tail _ (.tail _ (.tail _ (.tail _ h))))))))) | exact fun _ h => .tail _ (.tail _ (.tail _ (.tail _ (.tail _ (.tail _ (.tail _ (.tail _ (.tail _ (.tail _ (.tail _ h)))))))))) | exact fun _ h => .tail _ (.tail _ (.tail _ (.tail _ (.tail _ (.tail _ (.tail _ (.tail _ (.tail _ (.tail _ (.tail _ (.tail _ h))))))))))) | exact fun _ h => .tail _ (.tail _ (.tail _ (.tail _ (.tail _ (.tail _ (.tail _ (.tail _ (.tail _ (.tail _ (.tail _ (.tail _ (.tail _ h)))))))))))) | exact fun _ h => .tail _ (.tail _ (.tail _ (.tail _ (.tail _ (.tail _ (.tail _ (.tail _ (.tail _ (.tail _ (.tail _ (.tail _ (.tail _ (.tail _ h))))))))))))) | exact fun _ h => .tail _ (.tail _ (.tail _ (.tail _ (.tail _ (.tail _ (.tail _ (.tail _ (.tail _ (.tail _ (.tail _ (.tail _ (.tail _ (.tail _ (.tail _ h))))))))))))))) | exact Or.inl rfl); (case k3 => kun_tup); (case k5 => exact rfl); (case k6 => exact rfl); k_whole); intro h' F' N'; (try k_sweep)))
local macro_rules | `(tactic| walk_at "call builtin:min") => `(tactic| (k_here; (with_reducible show wpAny _ _ (call (Value.builtin _) [Value.int _ _, Value.int _ _]) _ _ _); k_dflt (refine' Mine.min_calm ?kA ?kC ?k1 ?k2 ?_; (case kA => exact rfl); (case k1 => k_asm); (case k2 => k_asm); (case kC => first | exact Mine.CalmN.at (by assumption) (by k_asm) (by first | exact fun _ h => h | exact fun _ h => .tail _ h | exact fun _ h => .tail _ (.tail _ h) | exact fun _ h => .tail _ (.tail _ (.tail _ h)) | exact fun _ h => .tail _ (.tail _ (.tail _ (.tail _ h))) | exact fun _ h => .tail _ (.tail _ (.tail _ (.tail _ (.tail _ h)))) | exact fun _ h => .tail _ (.tail _ (.tail _ (.tail _ (.tail _ (.tail _ h))))) | exact fun _ h => .tail _ (.tail _ (.tail _ (.tail _ (.tail _ (.tail _ (.tail _ h)))))) | exact fun _ h => .tail _ (.tail _ (.tail _ (.tail _ (.tail _ (.tail _ (.tail _ (.tail _ h))))))) | exact fun _ h => .tail _ (.tail _ (.tail _ (.tail _ (.tail _ (.tail _ (.tail _ (.tail _ (.tail _ h)))))))) | exact fun _ h => .tail _ (.tail _ (.tail _ (.tail _ (.tail _ (.tail _ (.tail _ (.tail _ (.tail _ (.tail _ h))))))))) | exact fun _ h => .tail _ (.tail _ (.tail _ (.tail _ (.tail _ (.tail _ (.tail _ (.tail _ (.tail _ (.tail _ (.tail _ h)))))))))) | exact fun _ h => .tail _ (.tail _ (.tail _ (.tail _ (.tail _ (.tail _ (.tail _ (.tail _ (.tail _ (.tail _ (.tail _ (.tail _ h))))))))))) | exact fun _ h => .tail _ (.tail _ (.tail _ (.tail _ (.tail _ (.tail _ (.tail _ (.tail _ (.tail _ (.tail _ (.tail _ (.tail _ (.tail _ h)))))))))))) | exact fun _ h => .tail _ (.tail _ (.tail _ (.tail _ (.tail _ (.tail _ (.tail _ (.tail _ (.tail _ (.tail _ (.tail _ (.tail _ (.tail _ (.tail _ h))))))))))))) | exact fun _ h => .tail _ (.tail _ (.tail _ (.tail _ (.tail _ (.tail _ (.tail _ (.tail _ (.tail _ (.tail _ (.tail _ (.tail _ (.tail _ (.tail _ (.tail _ h))))))))))))))) | exact Or.inl rfl); k_whole); intro h9 tk9 F9 N9; (try dsimp only)))
local macro_rules | `(tactic| walk_at "call builtin:max") => `(tactic| (k_here; (with_reducible show wpAny _ _ (call (Value.builtin _) [Value.int _ _, Value.int _ _]) _ _ _); k_dflt (refine' Mine.max_wc ?kA ?kC ?k1 ?k2 ?_; (case kA => exact rfl); (case k1 => k_asm); (case k2 => k_asm); (case kC => first | exact Mine.CalmN.at (by assumption) (by k_asm) (by first | exact fun _ h => h | exact fun _ h => .tail _ h | exact fun _ h => .tail _ (.tail _ h) | exact fun _ h => .tail _ (.tail _ (.tail _ h)) | exact fun _ h => .tail _ (.tail _ (.tail _ (.tail _ h))) | exact fun _ h => .tail _ (.tail _ (.tail _ (.tail _ (.tail _ h)))) | exact fun _ h => .tail _ (.tail _ (.tail _ (.tail _ (.tail _ (.tail _ h))))) | exact fun _ h => .tail _ (.tail _ (.tail _ (.tail _ (.tail _ (.tail _ (.tail _ h)))))) | exact fun _ h => .tail _ (.tail _ (.tail _ (.tail _ (.tail _ (.tail _ (.tail _ (.tail _ h))))))) | exact fun _ h => .tail _ (.tail _ (.tail _ (.tail _ (.tail _ (.tail _ (.tail _ (.tail _ (.tail _ h)))))))) | exact fun _ h => .tail _ (.tail _ (.tail _ (.tail _ (.tail _ (.tail _ (.tail _ (.tail _ (.tail _ (.tail _ h))))))))) | exact fun _ h => .tail _ (.tail _ (.tail _ (.tail _ (.tail _ (.tail _ (.tail _ (.tail _ (.tail _ (.tail _ (.tail _ h)))))))))) | exact fun _ h => .tail _ (.tail _ (.tail _ (.tail _ (.tail _ (.tail _ (.tail _ (.tail _ (.tail _ (.tail _ (.tail _ (.tail _ h))))))))))) | exact fun _ h => .tail _ (.tail _ (.tail _ (.tail _ (.tail _ (.tail _ (.tail _ (.tail _ (.tail _ (.tail _ (.tail _ (.tail _ (.tail _ h)))))))))))) | exact fun _ h => .tail _ (.tail _ (.tail _ (.tail _ (.tail _ (.tail _ (.tail _ (.tail _ (.tail _ (.tail _ (.tail _ (.tail _ (.tail _ (.tail _ h))))))))))))) | exact fun _ h => .tail _ (.tail _ (.tail _ (.tail _ (.tail _ (.tail _ (.tail _ (.tail _ (.tail _ (.tail _ (.tail _ (.tail _ (.tail _ (.tail _ (.tail _ h))))))))))))))) | exact Or.inl rfl); k_whole); intro v9 h9 tk9 F9 N9; (try dsimp only)))
local macro_rules | `(tactic| walk_at "exec Assert") => `(tactic| (refine Mine.assert_holds ?_))

local macro_rules | `(tactic| walk_at "call ref") => `(tactic| (k_here; (with_reducible show wpAny _ _ (call (Value.ref 162) _) _ _ _); k_dflt (refine' Mine.Ctr.use (Mine.c_less _ _ _ _ _ _ _ _ _ _ ?_ ?_ ?_ ?_) ?k1 ?k2 ?k3 ?k4 ?k5 ?k6 ?k7 ?k8 ?k9 ?_; (case k1 => k_asm); (case k2 => k_asm); (case k3 => k_asm); (case k4 => k_asm); (case k5 => k_asm); (case k9 => first | assumption | exact Mine.CalmN.sub (by assumption) (by first | exact fun _ h => h | exact fun _ h => .tail _ h | exact fun _ h => .tail _ (.tail _ h) | exact fun _ h => .tail _ (.tail _ (.tail _ h)) | exact fun _ h => .tail _ (.tail _ (.tail _ (.tail _ h))) | exact fun _ h => .tail _ (.tail _ (.tail _ (.tail _ (.tail _ h)))) | exact fun _ h => .tail _ (.tail _ (.tail _ (.tail _ (.tail _ (.tail _ h))))) | exact fun _ h => .tail _ (.tail _ (.tail _ (.tail _ (.tail _ (.tail _ (.tail _ h)))))) | exact fun _ h => .tail _ (.tail _ (.tail _ (.tail _ (.tail _ (.tail _ (.tail _ (.tail _ h))))))) | exact fun _ h => .tail _ (.tail _ (.tail _ (.tail _ (.tail _ (.tail _ (.tail _ (.tail _ (.tail _ h)))))))) | exact fun _ h => .tail _ (.tail _ (.tail _ (.tail _ (.tail _ (.tail _ (.tail _ (.tail _ (.tail _ (.tail _ h))))))))) | exact fun _ h => .tail _ (.tail _ (.tail _ (.tail _ (.tail _ (.tail _ (.tail _ (.tail _ (.tail _ (.tail _ (.tail _ h)))))))))) | exact fun _ h => .tail _ (.tail _ (.tail _ (.tail _ (.tail _ (.tail _ (.tail _ (.tail _ (.tail _ (.tail _ (.tail _ (.tail _ h))))))))))) | exact fun _ h => .tail _ (.tail _ (.tail _ (.tail _ (.tail _ (.tail _ (.tail _ (.tail _ (.tail _ (.tail _ (.tail _ (.tail _ (.tail _ h)))))))))))) | exact fun _ h => .tail _ (.tail _ (.tail _ (.tail _ (.tail _ (.tail _ (.tail _ (.tail _ (.tail _ (.tail _ (.tail _ (.tail _ (.tail _ (.tail _ h))))))))))))) | exact fun _ h => .tail _ (.tail _ (.tail _ (.tail _ (.tail _ (.tail _ (.tail _ (.tail _ (.tail _ (.tail _ (.tail _ (.tail _ (.tail _ (.tail _ (.tail _ h))))))))))))))) | exact Or.inl rfl); (case k6 => first | exact rfl | assumption); (case k7 => first | ((try dsimp only [Mine.ktrX]); (try simp only [depth_under_make, depth_under_kw, depth_in1, depth_deeper, depth_caller]); (try dsimp only [Mine.ktrX]); omega) | ((try dsimp only [Mine.ktrX] at *); ktr_room)); (case k8 => first | ((try dsimp only [Mine.ktrX]); (try simp only [units_in1, units_deeper, Around.mark_units, units_caller]); (try dsimp only [Mine.ktrX]); omega) | ((try dsimp only [Mine.ktrX] at *); ktr_units)); (first | assumption | k_mem | omega | rotate_left); (first | assumption | k_mem | omega | rotate_left); (first | assumption | k_mem | omega | rotate_left); (first | assumption | k_mem | omega | rotate_left)); intro t9 h9 tk9 F9 N9; (try dsimp only); (try k_fold)))
local macro_rules | `(tactic| walk_at "call ref") => `(tactic| (k_here; (with_reducible show wpAny _ _ (call (Value.ref 155) _) _ _ _); k_dflt (refine' Mine.Ctr.use (Mine.c_told _ _ _ _ _ _ ?_) ?k1 ?k2 ?k3 ?k4 ?k5 ?k6 ?k7 ?k8 ?k9 ?_; (case k1 => k_asm); (case k2 => k_asm); (case k3 => k_asm); (case k4 => k_asm); (case k5 => k_asm); (case k9 => first | assumption | exact Mine.CalmN.sub (by assumption) (by first | exact fun _ h => h | exact fun _ h => .tail _ h | exact fun _ h => .tail _ (.tail _ h) | exact fun _ h => .tail _ (.tail _ (.tail _ h)) | exact fun _ h => .tail _ (.tail _ (.tail _ (.tail _ h))) | exact fun _ h => .tail _ (.tail _ (.tail _ (.tail _ (.tail _ h)))) | exact fun _ h => .tail _ (.tail _ (.tail _ (.tail _ (.tail _ (.tail _ h))))) | exact fun _ h => .tail _ (.tail _ (.tail _ (.tail _ (.tail _ (.tail _ (.tail _ h)))))) | exact fun _ h => .tail _ (.tail _ (.tail _ (.tail _ (.tail _ (.tail _ (.tail _ (.tail _ h))))))) | exact fun _ h => .tail _ (.tail _ (.tail _ (.tail _ (.tail _ (.tail _ (.tail _ (.tail _ (.tail _ h)))))))) | exact fun _ h => .tail _ (.tail _ (.tail _ (.tail _ (.tail _ (.tail _ (.tail _ (.tail _ (.tail _ (.tail _ h))))))))) | exact fun _ h => .tail _ (.tail _ (.tail _ (.tail _ (.tail _ (.tail _ (.tail _ (.tail _ (.tail _ (.tail _ (.tail _ h)))))))))) | exact fun _ h => .tail _ (.tail _ (.tail _ (.tail _ (.tail _ (.tail _ (.tail _ (.tail _ (.tail _ (.tail _ (.tail _ (.tail _ h))))))))))) | exact fun _ h => .tail _ (.tail _ (.tail _ (.tail _ (.tail _ (.tail _ (.tail _ (.tail _ (.tail _ (.tail _ (.tail _ (.tail _ (.tail _ h)))))))))))) | exact fun _ h => .tail _ (.tail _ (.tail _ (.tail _ (.tail _ (.tail _ (.tail _ (.tail _ (.tail _ (.tail _ (.tail _ (.tail _ (.tail _ (.tail _ h))))))))))))) | exact fun _ h => .tail _ (.tail _ (.tail _ (.tail _ (.tail _ (.tail _ (.tail _ (.tail _ (.tail _ (.tail _ (.tail _ (.tail _ (.tail _ (.tail _ (.tail _ h))))))))))))))) | exact Or.inl rfl); (case k6 => first | exact rfl | assumption); (case k7 => first | ((try dsimp only [Mine.ktrX]); (try simp only [depth_under_make, depth_under_kw, depth_in1, depth_deeper, depth_caller]); (try dsimp only [Mine.ktrX]); omega) | ((try dsimp only [Mine.ktrX] at *); ktr_room)); (case k8 => first | ((try dsimp only [Mine.ktrX]); (try simp only [units_in1, units_deeper, Around.mark_units, units_caller]); (try dsimp only [Mine.ktrX]); omega) | ((try dsimp only [Mine.ktrX] at *); ktr_units)); (first | assumption | k_mem | omega | rotate_left)); intro D9 t9 u9 v9 x9 h9 tk9 F9 N9; (try dsimp only); (try k_fold)))
local macro_rules | `(tactic| walk_at "pyIter ref") => `(tactic| (k_here; (rename IsRange _ _ _ _ _ _ _ _ => rgX); (with_unfolding_all refine' Mine.root_range (y := Str.ofString "found") (z := Str.ofString "more") (by assumption) ?kA ?kC rgX ?k1 ?k2 ?ky ?kx ?_ ?_; (case kA => exact rfl); (case k1 => k_asm); (case k2 => k_asm); (case kC => first | assumption | exact Mine.CalmN.sub (by assumption) (by first | exact fun _ h => h | exact fun _ h => .tail _ h | exact fun _ h => .tail _ (.tail _ h) | exact fun _ h => .tail _ (.tail _ (.tail _ h)) | exact fun _ h => .tail _ (.tail _ (.tail _ (.tail _ h))) | exact fun _ h => .tail _ (.tail _ (.tail _ (.tail _ (.tail _ h)))) | exact fun _ h => .tail _ (.tail _ (.tail _ (.tail _ (.tail _ (.tail _ h))))) | exact fun _ h => .tail _ (.tail _ (.tail _ (.tail _ (.tail _ (.tail _ (.tail _ h)))))) | exact fun _ h => .tail _ (.tail _ (.tail _ (.tail _ (.tail _ (.tail _ (.tail _ (.tail _ h))))))) | exact fun _ h => .tail _ (.tail _ (.tail _ (.tail _ (.tail _ (.tail _ (.tail _ (.tail _ (.tail _ h)))))))) | exact fun _ h => .tail _ (.tail _ (.tail _ (.tail _ (.tail _ (.tail _ (.tail _ (.tail _ (.tail _ (.tail _ h))))))))) | exact fun _ h => .tail _ (.tail _ (.tail _ (.tail _ (.tail _ (.tail _ (.tail _ (.tail _ (.tail _ (.tail _ (.tail _ h)))))))))) | exact fun _ h => .tail _ (.tail _ (.tail _ (.tail _ (.tail _ (.tail _ (.tail _ (.tail _ (.tail _ (.tail _ (.tail _ (.tail _ h))))))))))) | exact fun _ h => .tail _ (.tail _ (.tail _ (.tail _ (.tail _ (.tail _ (.tail _ (.tail _ (.tail _ (.tail _ (.tail _ (.tail _ (.tail _ h)))))))))))) | exact fun _ h => .tail _ (.tail _ (.tail _ (.tail _ (.tail _ (.tail _ (.tail _ (.tail _ (.tail _ (.tail _ (.tail _ (.tail _ (.tail _ (.tail _ h))))))))))))) | exact fun _ h => .tail _ (.tail _ (.tail _ (.tail _ (.tail _ (.tail _ (.tail _ (.tail _ (.tail _ (.tail _ (.tail _ (.tail _ (.tail _ (.tail _ (.tail _ h)))))))))))))))); (case ky => exact rfl); (case kx => decide)); (intros; (try dsimp only); (try k_fold))))
namespace Mine
open PySem.Builtin.Int (intBits)
theorem root_s1 {whole power most f P : Int} (hm : 1 ≤ most ∧ most ≤ 100) (h : IsRoot whole power most f P) : intBits (f * f) ≤ 4000 ∧ IntMulOk f f ∧ intBits ((2 * f + 1) ^ Int.toNat 2) ≤ 4000 ∧ (intBits (2 * f + 1) : Int) * 2 ≤ 2 ^ 27 ∧ 0 < f ∧ 0 < f + 1 := by
  have a := root_sizes hm.1 hm.2 h
  have b := sq_bits (Nat.le_trans a.2.1 (by decide))
  have c := sq_bits a.2.2
  exact ⟨b.1, b.2.1, c.2.2.1, c.2.2.2, a.1, by omega⟩
theorem root_s2 {whole power most P i f : Int} (h : RTurn whole power most P i f) : intBits ((f + 2 ^ (most - 1 - i).toNat) * (f + 2 ^ (most - 1 - i).toNat)) ≤ 4000 ∧ IntMulOk (f + 2 ^ (most - 1 - i).toNat) (f + 2 ^ (most - 1 - i).toNat) := by
  have b := sq_bits (Nat.le_trans h.sizes.1 (by decide))
  exact ⟨b.1, b.2.1⟩
set_option maxRecDepth 100000 in
set_option maxHeartbeats 8000000 in
theorem c_root (wy : Way) (w : World) (news : List (Addr × Obj)) (whole power most : Int) (t u v z : Tok) (hw : 0 < whole) (hb : intBits whole ≤ 400) (hp : -300 ≤ power ∧ power ≤ 300) (hm : 1 ≤ most ∧ most ≤ 100) :
    Ctr w 169 4 news [.int whole t, .int power u, .int most v, .str wy.str z] (RetT4 news 0 (lr wy whole power most).1 (lr wy whole power most).2.1 (lr wy whole power most).2.2) := by
  have HR : RLoop whole power most := ⟨hw, hm.1, hm.2⟩
  w_top off
  dsimp only [Ctr, RetI, RetT2, RetT4, RetB, RetZ]
  k_fill
  intro pp loose mean mg mb dp un gd cn cs a ccd cl outer A₀ base h₀ L m s hxx Q E B F X N T hk hdp hu hcalm hret
  refine wpAny_call ?_
  k_dflt (refine' code_def ?k1 ?k2 ?k3 ?k4 ?k5 ?kA ?kF ?kK ?k6 ?k7 ?k8 ?k9 ?kB ?_ ?c2 ?c3 ?c4 ?c5; (case kA => exact rfl); (case kF => exact rfl); (case kK => assumption); (case k1 => k_asm); (case k2 => k_asm); (case k3 => k_asm); (case k4 => k_asm); (case k5 => k_asm); (case k6 => k_is); (case k7 => k_is); (case k8 => first | ((try dsimp only [Mine.ktrX]); (try simp only [depth_under_make, depth_under_kw, depth_in1, depth_deeper, depth_caller]); (try dsimp only [Mine.ktrX]); omega) | ((try dsimp only [Mine.ktrX] at *); ktr_room)); (case k9 => first | exact BindsTo.of_eq rfl | exact binds_K (by k_in) rfl (by k_is) rfl rfl rfl); (case c5 => decide); (case kB => exact locs rfl); (case c2 => exact rfl); (case c3 => exact rfl); (case c4 => exact rfl); k_whole; intro g' L' h' FG' F' N' B' X' T'; (try dsimp only); (try k_lift B'); (try k_fold))
  k_with_none
  repeat' (first | (k_unfold; (try dsimp only)) | walk1 | (dsimp only; walk1) | (leave1; try dsimp only) | fail "no step")
  all_goals first
    | (rename Fr _ _ _ _ => lF; rename News _ _ _ _ => lN; refine turn_end lF lN (by first | exact fun _ h => h | exact fun _ h => .tail _ h | exact fun _ h => .tail _ (.tail _ h) | exact fun _ h => .tail _ (.tail _ (.tail _ h)) | exact fun _ h => .tail _ (.tail _ (.tail _ (.tail _ h))) | exact fun _ h => .tail _ (.tail _ (.tail _ (.tail _ (.tail _ h)))) | exact fun _ h => .tail _ (.tail _ (.tail _ (.tail _ (.tail _ (.tail _ h))))) | exact fun _ h => .tail _ (.tail _ (.tail _ (.tail _ (.tail _ (.tail _ (.tail _ h)))))) | exact fun _ h => .tail _ (.tail _ (.tail _ (.tail _ (.tail _ (.tail _ (.tail _ (.tail _ h))))))) | exact fun _ h => .tail _ (.tail _ (.tail _ (.tail _ (.tail _ (.tail _ (.tail _ (.tail _ (.tail _ h)))))))) | exact fun _ h => .tail _ (.tail _ (.tail _ (.tail _ (.tail _ (.tail _ (.tail _ (.tail _ (.tail _ (.tail _ h))))))))) | exact fun _ h => .tail _ (.tail _ (.tail _ (.tail _ (.tail _ (.tail _ (.tail _ (.tail _ (.tail _ (.tail _ (.tail _ h)))))))))) | exact fun _ h => .tail _ (.tail _ (.tail _ (.tail _ (.tail _ (.tail _ (.tail _ (.tail _ (.tail _ (.tail _ (.tail _ (.tail _ h))))))))))) | exact fun _ h => .tail _ (.tail _ (.tail _ (.tail _ (.tail _ (.tail _ (.tail _ (.tail _ (.tail _ (.tail _ (.tail _ (.tail _ (.tail _ h)))))))))))) | exact fun _ h => .tail _ (.tail _ (.tail _ (.tail _ (.tail _ (.tail _ (.tail _ (.tail _ (.tail _ (.tail _ (.tail _ (.tail _ (.tail _ (.tail _ h))))))))))))) | exact fun _ h => .tail _ (.tail _ (.tail _ (.tail _ (.tail _ (.tail _ (.tail _ (.tail _ (.tail _ (.tail _ (.tail _ (.tail _ (.tail _ (.tail _ (.tail _ h))))))))))))))) ⟨_, _, rfl, (fun q h1 h2 h3 => by simp only [h1, h2, h3, if_false]), ?_⟩; first | exact RTurn.yes (by assumption) (by assumption) | exact RTurn.no (by assumption) (by assumption))
    | with_reducible exact (root_s1 hm (by assumption)).1
    | with_reducible exact (root_s1 hm (by assumption)).2.1
    | with_reducible exact (root_s1 hm (by assumption)).2.2.1
    | with_reducible exact (root_s1 hm (by assumption)).2.2.2.1
    | with_reducible exact (root_s1 hm (by assumption)).2.2.2.2.1
    | with_reducible exact (root_s1 hm (by assumption)).2.2.2.2.2
    | with_reducible exact (root_s2 (by assumption)).1
    | with_reducible exact (root_s2 (by assumption)).2
    | with_reducible exact (RTurn.sizes (by assumption)).2.1
    | with_reducible exact (RTurn.sizes (by assumption)).2.2
    | with_reducible exact IntMulOk.of_left (by decide)
    | omega
    | (rename Fr _ _ _ _ => lF; rename News _ _ _ _ => lN; refine retN_end hret ?_ lF lN (by k_mem) (by first | exact fun _ h => .tail _ h | exact fun _ h => h | exact fun _ h => .tail _ (.tail _ h) | exact fun _ h => .tail _ (.tail _ (.tail _ h)) | exact fun _ h => .tail _ (.tail _ (.tail _ (.tail _ h))) | exact fun _ h => .tail _ (.tail _ (.tail _ (.tail _ (.tail _ h)))))
       first
         | with_reducible exact root_up hw hm.1 (by assumption) (up_n1 (by assumption) (by assumption))
         | with_reducible exact root_up hw hm.1 (by assumption) (up_n2 (by assumption) (by assumption) (by assumption))
         | with_reducible exact root_up hw hm.1 (by assumption) (up_c1 (by assumption) (by assumption))
         | with_reducible exact root_dn hw hm.1 (by assumption) (up_n3 (by assumption) (by assumption) (by assumption))
         | with_reducible exact root_dn hw hm.1 (by assumption) (up_n4 (by assumption) (by assumption) (by assumption))
         | with_reducible exact root_dn hw hm.1 (by assumption) (up_c2 (by assumption) (by assumption))
         | with_reducible exact root_dn hw hm.1 (by assumption) (up_c3 (by assumption) (by assumption)))
set_option maxRecDepth 100000 in
set_option maxHeartbeats 8000000 in
theorem c_root0 (wy : Way) (w : World) (news : List (Addr × Obj)) (power most : Int) (t u v z : Tok) :
    Ctr w 169 4 news [.int 0 t, .int power u, .int most v, .str wy.str z] (RetT4 news 0 0 0 0) := by
  w_top off
  dsimp only [Ctr, RetI, RetT2, RetT4, RetB, RetZ]
  k_fill
  intro pp loose mean mg mb dp un gd cn cs a ccd cl outer A₀ base h₀ L m s hxx Q E B F X N T hk hdp hu hcalm hret
  refine wpAny_call ?_
  k_dflt (refine' code_def ?k1 ?k2 ?k3 ?k4 ?k5 ?kA ?kF ?kK ?k6 ?k7 ?k8 ?k9 ?kB ?_ ?c2 ?c3 ?c4 ?c5; (case kA => exact rfl); (case kF => exact rfl); (case kK => assumption); (case k1 => k_asm); (case k2 => k_asm); (case k3 => k_asm); (case k4 => k_asm); (case k5 => k_asm); (case k6 => k_is); (case k7 => k_is); (case k8 => first | ((try dsimp only [Mine.ktrX]); (try simp only [depth_under_make, depth_under_kw, depth_in1, depth_deeper, depth_caller]); (try dsimp only [Mine.ktrX]); omega) | ((try dsimp only [Mine.ktrX] at *); ktr_room)); (case k9 => first | exact BindsTo.of_eq rfl | exact binds_K (by k_in) rfl (by k_is) rfl rfl rfl); (case c5 => decide); (case kB => exact locs rfl); (case c2 => exact rfl); (case c3 => exact rfl); (case c4 => exact rfl); k_whole; intro g' L' h' FG' F' N' B' X' T'; (try dsimp only); (try k_lift B'); (try k_fold))
  k_with_none
  repeat' (first | (k_unfold; (try dsimp only)) | walk1 | (dsimp only; walk1) | (leave1; try dsimp only) | fail "no step")
  all_goals first
    | (rename Fr _ _ _ _ => lF; rename News _ _ _ _ => lN; exact retT4_end hret rfl rfl rfl rfl lF lN (by k_mem) (by first | exact fun _ h => .tail _ h | exact fun _ h => h | exact fun _ h => .tail _ (.tail _ h) | exact fun _ h => .tail _ (.tail _ (.tail _ h)) | exact fun _ h => .tail _ (.tail _ (.tail _ (.tail _ h))) | exact fun _ h => .tail _ (.tail _ (.tail _ (.tail _ (.tail _ h))))))
    | (exfalso; omega)
end Mine

end
namespace Mine
open PySem.Builtin.Int (intBits)
/-- equal values compare alike -/
theorem less_congr {w1 p1 w2 p2 : Int} (h : lessv w1 p1 w2 p2 = 0) (a e : Int) : (0 ≤ lessv a e w1 p1 ↔ 0 ≤ lessv a e w2 p2) ∧ (lessv a e w1 p1 < 0 ↔ lessv a e w2 p2 < 0) ∧ (0 < lessv a e w1 p1 ↔ 0 < lessv a e w2 p2) ∧ (lessv a e w1 p1 = 0 ↔ lessv a e w2 p2 = 0) := by
  have k0 : min e (min p1 p2) ≤ e := by omega
  have k1 : min e (min p1 p2) ≤ p1 := by omega
  have k2 : min e (min p1 p2) ≤ p2 := by omega
  generalize min e (min p1 p2) = K at k0 k1 k2
  rw [(less_sign k1 k2).2.2.2] at h
  have s1 := less_sign (one := a) (two := w1) k0 k1
  have s2 := less_sign (one := a) (two := w2) k0 k2
  rw [h] at s1
  rw [s1.1, s1.2.1, s1.2.2.1, s1.2.2.2, s2.1, s2.2.1, s2.2.2.1, s2.2.2.2]
  exact ⟨Iff.rfl, Iff.rfl, Iff.rfl, Iff.rfl⟩
theorem less_up2 {w1 p1 w2 p2 : Int} (h : lessv w1 p1 w2 p2 = 0) : lessv w1 (p1 + 2) w2 (p2 + 2) = 0 := by
  have k1 : min p1 p2 ≤ p1 := by omega
  have k2 : min p1 p2 ≤ p2 := by omega
  generalize min p1 p2 = K at k1 k2
  rw [(less_sign k1 k2).2.2.2] at h
  rw [(less_sign (K := K) (by omega) (by omega)).2.2.2, show (p1 + 2 - K).toNat = (p1 - K).toNat + 2 by omega, show (p2 + 2 - K).toNat = (p2 - K).toNat + 2 by omega, Int.pow_add, Int.pow_add, ← Int.mul_assoc, ← Int.mul_assoc, h]
theorem isRoot_val {w1 p1 w2 p2 most F P : Int} (h : lessv w1 p1 w2 p2 = 0) (r : IsRoot w1 p1 most F P) : IsRoot w2 p2 most F P :=
  ⟨r.1, r.2.1, (less_congr h _ _).1.mp r.2.2.1, (less_congr h _ _).2.1.mp r.2.2.2⟩
theorem lrUp_val {wy : Way} {w1 p1 w2 p2 F P : Int} (h : lessv w1 p1 w2 p2 = 0) : lrUp wy F P w1 p1 = lrUp wy F P w2 p2 := by
  have h2 := less_up2 h
  cases wy with
  | f => rfl
  | d => rfl
  | c => show (if _ then _ else _) = (if _ then _ else _); simp only [(less_congr h _ _).2.2.1]
  | u => show (if _ then _ else _) = (if _ then _ else _); simp only [(less_congr h _ _).2.2.1]
  | n => show (if _ then _ else _) = (if _ then _ else _); simp only [(less_congr h2 _ _).2.2.1, (less_congr h2 _ _).2.2.2]
theorem rinv_ex {whole power most : Int} (hw : 0 < whole) (hm : 1 ≤ most) : ∀ k : Nat, (k : Int) ≤ most → ∃ f, RInv whole power most (((intBits whole : Int) + power + 1).fdiv 2 - most) k f
  | 0, _ => ⟨0, rinv_start hw hm⟩
  | k + 1, hk => by
    obtain ⟨f, hf⟩ := rinv_ex hw hm k (by omega)
    have s := rinv_step (by omega) hf
    by_cases c : 0 ≤ lessv ((f + 2 ^ (most - 1 - k).toNat) * (f + 2 ^ (most - 1 - k).toNat)) (2 * (((intBits whole : Int) + power + 1).fdiv 2 - most)) whole power
    · exact ⟨_, s.1 c⟩
    · exact ⟨_, s.2 c⟩
theorem root_ex {whole power most : Int} (hw : 0 < whole) (hm : 1 ≤ most) : ∃ F, IsRoot whole power most F (((intBits whole : Int) + power + 1).fdiv 2 - most) := by
  obtain ⟨f, hf⟩ := rinv_ex (power := power) hw hm most.toNat (by omega)
  exact ⟨f, rinv_root hw hm (by omega) rfl hf⟩
/-- the root of equal values -/
theorem lr_val {wy : Way} {w1 p1 w2 p2 most : Int} (h1 : 0 < w1) (h2 : 0 < w2) (hm : 1 ≤ most) (h : lessv w1 p1 w2 p2 = 0) : lr wy w1 p1 most = lr wy w2 p2 most := by
  obtain ⟨F, hF⟩ := root_ex (power := p1) h1 hm
  rw [lr_of h1 hm hF, lr_of h2 hm (isRoot_val h hF), lrUp_val h]
theorem lrUp_or (wy : Way) (F P whole power : Int) : lrUp wy F P whole power = 0 ∨ lrUp wy F P whole power = 1 := by
  cases wy with
  | f => exact .inl rfl
  | d => exact .inl rfl
  | c => show (if _ then _ else _) = _ ∨ (if _ then _ else _) = _; split <;> simp
  | u => show (if _ then _ else _) = _ ∨ (if _ then _ else _) = _; split <;> simp
  | n => show (if _ then _ else _) = _ ∨ (if _ then _ else _) = _; split <;> simp
theorem lrUp_fd {wy : Way} (h : wy.isFD = true) (F P whole power : Int) : lrUp wy F P whole power = 0 := by
  rcases isFD_cases h with rfl | rfl <;> rfl
/-- what the law asks of a hypotenuse -/
structure Near (wy : Way) (S power most : Int) (T : Int × Int × Int) : Prop where
  pos : 0 < T.1
  odd : T.1 % 2 = 1
  bits : T.2.2 = intBits T.1
  le : T.2.2 ≤ most
  down : wy.isFD = true → 0 ≤ lessv (T.1 * T.1) (2 * T.2.1) S power
  low : 0 ≤ lessv (S * ((2 ^ most.toNat - 4) * (2 ^ most.toNat - 4))) power (T.1 * T.1 * 2 ^ most.toNat * 2 ^ most.toNat) (2 * T.2.1)
  high : 0 ≤ lessv (T.1 * T.1 * 2 ^ most.toNat * 2 ^ most.toNat) (2 * T.2.1) (S * ((2 ^ most.toNat + 4) * (2 ^ most.toNat + 4))) power
theorem near_low {u F G X X' U : Int} (hu : 16 ≤ u) (hF : u ≤ 2 * F) (hG : F ≤ G) (hU : 0 < U) (h4 : X' < (F + 1) * (F + 1) * U) (hx : X * (8 * u) ≤ X' * (8 * u + 1)) : X * ((u - 4) * (u - 4)) ≤ G * G * u * u * U := by
  have a1 : (F + 1) * (u - 4) ≤ F * (u - 2) := by
    have e1 : (F + 1) * (u - 4) = F * u - 4 * F + u - 4 := by grind
    have e2 : F * (u - 2) = F * u - 2 * F := by grind
    omega
  have a2 := sq_le_sq (a := (F + 1) * (u - 4)) (Int.mul_nonneg (by omega) (by omega)) a1
  have a3 : (8 * u + 1) * (u - 2) ≤ 8 * u * u := by
    have e1 : (8 * u + 1) * (u - 2) = 8 * u * u - 15 * u - 2 := by grind
    omega
  have a4 : (8 * u + 1) * ((u - 2) * (u - 2)) ≤ 8 * u * (u * u) := by
    have b1 := Int.mul_le_mul_of_nonneg_right a3 (show 0 ≤ u - 2 by omega)
    have b2 : 8 * u * u * (u - 2) ≤ 8 * u * u * u := Int.mul_le_mul_of_nonneg_left (by omega) (Int.mul_nonneg (by omega) (by omega))
    have e1 : (8 * u + 1) * ((u - 2) * (u - 2)) = (8 * u + 1) * (u - 2) * (u - 2) := by grind
    have e2 : 8 * u * (u * u) = 8 * u * u * u := by grind
    omega
  have hF2 : F * F ≤ G * G := sq_le_sq (by omega) hG
  have hv : 0 ≤ (u - 4) * (u - 4) := Int.mul_nonneg (by omega) (by omega)
  -- scaled by 8 * u
  have c1 := Int.mul_le_mul_of_nonneg_right hx hv
  have c2 := Int.mul_le_mul_of_nonneg_right (Int.mul_le_mul_of_nonneg_right (Int.le_of_lt h4) (show 0 ≤ 8 * u + 1 by omega)) hv
  have c3 := Int.mul_le_mul_of_nonneg_right a2 (Int.mul_nonneg (show 0 ≤ 8 * u + 1 by omega) (Int.le_of_lt hU))
  have c4 := Int.mul_le_mul_of_nonneg_right a4 (Int.mul_nonneg (Int.mul_nonneg (show 0 ≤ F by omega) (show 0 ≤ F by omega)) (Int.le_of_lt hU))
  have c5 := Int.mul_le_mul_of_nonneg_right hF2 (Int.mul_nonneg (Int.mul_nonneg (show 0 ≤ 8 * u by omega) (Int.mul_nonneg (show 0 ≤ u by omega) (show 0 ≤ u by omega))) (Int.le_of_lt hU))
  have d1 : (F + 1) * (F + 1) * U * (8 * u + 1) * ((u - 4) * (u - 4)) = (F + 1) * (u - 4) * ((F + 1) * (u - 4)) * ((8 * u + 1) * U) := by grind
  have d2 : F * (u - 2) * (F * (u - 2)) * ((8 * u + 1) * U) = (8 * u + 1) * ((u - 2) * (u - 2)) * (F * F * U) := by grind
  have d3 : 8 * u * (u * u) * (F * F * U) = F * F * (8 * u * (u * u) * U) := by grind
  have d4 : G * G * (8 * u * (u * u) * U) = G * G * u * u * U * (8 * u) := by grind
  have d5 : X * (8 * u) * ((u - 4) * (u - 4)) = X * ((u - 4) * (u - 4)) * (8 * u) := by grind
  refine Int.le_of_mul_le_mul_right (a := 8 * u) ?_ (by omega)
  omega
theorem near_high {u F G X X' U : Int} (hu : 16 ≤ u) (hF : u ≤ 2 * F) (hG : G ≤ F + 1) (hG0 : 0 ≤ G) (hU : 0 < U) (h3 : F * F * U ≤ X') (hx : X' ≤ X) : G * G * u * u * U ≤ X * ((u + 4) * (u + 4)) := by
  have a1 : G * u ≤ F * (u + 4) := by
    have b := Int.mul_le_mul_of_nonneg_right hG (show 0 ≤ u by omega)
    have e1 : (F + 1) * u = F * u + u := by grind
    have e2 : F * (u + 4) = F * u + 4 * F := by grind
    omega
  have a2 := sq_le_sq (Int.mul_nonneg hG0 (show 0 ≤ u by omega)) a1
  have c1 := Int.mul_le_mul_of_nonneg_right a2 (Int.le_of_lt hU)
  have c2 := Int.mul_le_mul_of_nonneg_right (Int.le_trans h3 hx) (show 0 ≤ (u + 4) * (u + 4) from Int.mul_nonneg (by omega) (by omega))
  have d1 : G * u * (G * u) * U = G * G * u * u * U := by grind
  have d2 : F * (u + 4) * (F * (u + 4)) * U = F * F * U * ((u + 4) * (u + 4)) := by grind
  omega
/-- the root of a number that is cut off below by less than one part in eight times two to the precision -/
theorem near_lr (wy : Way) {whole' power' S power most : Int} (hw' : 0 < whole') (hm : 4 ≤ most) (hle : 0 ≤ lessv whole' power' S power) (hge : 0 ≤ lessv (S * (8 * 2 ^ most.toNat)) power (whole' * (8 * 2 ^ most.toNat + 1)) power') : Near wy S power most (lr wy whole' power' most) := by
  obtain ⟨F, hF⟩ := root_ex (power := power') hw' (show 1 ≤ most by omega)
  generalize (((intBits whole' : Int) + power' + 1).fdiv 2 - most) = P at hF
  rw [lr_of hw' (by omega) hF]
  have hup := lrUp_or wy F P whole' power'
  have hfd := fun h => lrUp_fd (wy := wy) h F P whole' power'
  generalize lrUp wy F P whole' power' = up at hup hfd
  obtain ⟨r1, r2, r3, r4⟩ := hF
  have hp := pow2_pos (most - 1).toNat
  have eu : (2:Int) ^ most.toNat = 2 * 2 ^ (most - 1).toNat := by rw [show most.toNat = (most - 1).toNat + 1 by omega, Int.pow_succ]; omega
  have hu : (16:Int) ≤ 2 ^ most.toNat := by
    have := pow2_mono (a := 4) (b := most.toNat) (by omega)
    simpa using this
  have hGpos : 0 < F + up := by omega
  have ⟨g1, g2, g3⟩ := sM_spec hGpos
  have hbits := bits_odd hGpos
  have hbG : intBits (F + up) ≤ most.toNat + 1 := bits_of_le (Int.le_of_lt hGpos) (by omega)
  have k1 : min power' (min power (2 * P)) ≤ power' := by omega
  have k2 : min power' (min power (2 * P)) ≤ power := by omega
  have k3 : min power' (min power (2 * P)) ≤ 2 * P := by omega
  generalize min power' (min power (2 * P)) = K at k1 k2 k3
  have k4 : K ≤ 2 * (P + tz (F + up)) := by omega
  rw [(less_sign k3 k1).1] at r3
  rw [(less_sign k3 k1).2.1] at r4
  rw [(less_sign k1 k2).1] at hle
  rw [(less_sign k2 k1).1] at hge
  have hU := pow2_pos (2 * P - K).toNat
  have eT : ∀ c : Int, sM (F + up) * sM (F + up) * c * 2 ^ (2 * (P + tz (F + up)) - K).toNat = (F + up) * (F + up) * c * 2 ^ (2 * P - K).toNat := fun c => by
    rw [show (2 * (P + tz (F + up)) - K).toNat = tz (F + up) + tz (F + up) + (2 * P - K).toNat by omega, Int.pow_add, Int.pow_add]
    have : (F + up) * (F + up) = 2 ^ tz (F + up) * sM (F + up) * (2 ^ tz (F + up) * sM (F + up)) := by rw [← g1]
    rw [this]
    grind
  have hx : S * 2 ^ (power - K).toNat * (8 * 2 ^ most.toNat) ≤ whole' * 2 ^ (power' - K).toNat * (8 * 2 ^ most.toNat + 1) := by
    have e1 : S * 2 ^ (power - K).toNat * (8 * 2 ^ most.toNat) = S * (8 * 2 ^ most.toNat) * 2 ^ (power - K).toNat := by grind
    have e2 : whole' * 2 ^ (power' - K).toNat * (8 * 2 ^ most.toNat + 1) = whole' * (8 * 2 ^ most.toNat + 1) * 2 ^ (power' - K).toNat := by grind
    omega
  refine ⟨g3, g2, rfl, ?_, fun h => ?_, ?_, ?_⟩
  · show ((intBits (sM (F + up)) : Nat) : Int) ≤ most
    rcases (show intBits (F + up) ≤ most.toNat ∨ intBits (F + up) = most.toNat + 1 by omega) with h | h
    · omega
    · have hlo := bits_lo hGpos
      rw [h] at hlo
      have e : F + up = 2 ^ most.toNat := by
        have : most.toNat + 1 - 1 = most.toNat := by omega
        rw [this] at hlo
        omega
      have : sM (F + up) = 1 := by rw [e]; exact sM_eq (k := most.toNat) (m := 1) (by simp) rfl
      rw [this, show intBits 1 = 1 by decide]
      omega
  · show 0 ≤ lessv (sM (F + up) * sM (F + up)) (2 * (P + tz (F + up))) S power
    rw [(less_sign k4 k2).1]
    have := eT 1
    rw [Int.mul_one, Int.mul_one] at this
    rw [this, hfd h, Int.add_zero]
    exact Int.le_trans r3 hle
  · show 0 ≤ lessv _ power (sM (F + up) * sM (F + up) * _ * _) (2 * (P + tz (F + up)))
    rw [(less_sign k2 k4).1]
    have := eT (2 ^ most.toNat * 2 ^ most.toNat)
    rw [← Int.mul_assoc, ← Int.mul_assoc] at this
    rw [this]
    have := near_low (G := F + up) hu (by omega) (by omega) hU r4 hx
    have e : S * 2 ^ (power - K).toNat * ((2 ^ most.toNat - 4) * (2 ^ most.toNat - 4)) = S * ((2 ^ most.toNat - 4) * (2 ^ most.toNat - 4)) * 2 ^ (power - K).toNat := by grind
    omega
  · show 0 ≤ lessv (sM (F + up) * sM (F + up) * _ * _) (2 * (P + tz (F + up))) _ power
    rw [(less_sign k4 k2).1]
    have := eT (2 ^ most.toNat * 2 ^ most.toNat)
    rw [← Int.mul_assoc, ← Int.mul_assoc] at this
    rw [this]
    have := near_high (G := F + up) hu (by omega) (by omega) (by omega) hU r3 hle
    have e : S * 2 ^ (power - K).toNat * ((2 ^ most.toNat + 4) * (2 ^ most.toNat + 4)) = S * ((2 ^ most.toNat + 4) * (2 ^ most.toNat + 4)) * 2 ^ (power - K).toNat := by grind
    omega
theorem near_exact (wy : Way) {S power most : Int} (hS : 0 < S) (hm : 4 ≤ most) : Near wy S power most (lr wy S power most) := by
  refine near_lr wy hS hm ?_ ?_
  · rw [(less_sign (K := power) (Int.le_refl _) (Int.le_refl _)).1]; exact Int.le_refl _
  · rw [(less_sign (K := power) (Int.le_refl _) (Int.le_refl _)).1]
    refine Int.mul_le_mul_of_nonneg_right ?_ (Int.le_of_lt (pow2_pos _))
    rw [Int.mul_add, Int.mul_one]; omega
end Mine

namespace Mine
open PySem.Builtin.Int (intBits)
/-- a number cut to so many bits -/
theorem rn_cut {m e p : Int} (hm : 0 < m) (hp : 1 ≤ p) : 0 < (rn .d m e p).1 ∧ e ≤ (rn .d m e p).2.1 ∧ (rn .d m e p).2.1 ≤ e + intBits m ∧ (∀ K : Int, K ≤ e → (rn .d m e p).1 * 2 ^ ((rn .d m e p).2.1 - K).toNat ≤ m * 2 ^ (e - K).toNat ∧ m * 2 ^ (e - K).toNat * 2 ^ (p - 1).toNat ≤ (rn .d m e p).1 * 2 ^ ((rn .d m e p).2.1 - K).toNat * (2 ^ (p - 1).toNat + 1)) ∧
    ((intBits (sM m) : Int) ≤ p → ∀ K : Int, K ≤ e → (rn .d m e p).1 * 2 ^ ((rn .d m e p).2.1 - K).toNat = m * 2 ^ (e - K).toNat) := by
  have hb := bits_odd hm
  have ⟨g1, g2, g3⟩ := sM_spec hm
  unfold rn
  split
  · rename_i hn
    have hr := fdiv_pow_range hm hp hn
    have ⟨f1, f2⟩ := fdiv_pow_facts m ((intBits m : Int) - p).toNat
    have hp1 := pow2_pos (p - 1).toNat
    have hn1 := pow2_pos ((intBits m : Int) - p).toNat
    show 0 < sM (m.fdiv (2 ^ ((intBits m : Int) - p).toNat)) ∧ e ≤ e + ((intBits m : Int) - p) + tz (m.fdiv (2 ^ ((intBits m : Int) - p).toNat)) ∧ e + ((intBits m : Int) - p) + tz (m.fdiv (2 ^ ((intBits m : Int) - p).toNat)) ≤ e + intBits m ∧ (∀ K : Int, K ≤ e → sM (m.fdiv (2 ^ ((intBits m : Int) - p).toNat)) * 2 ^ (e + ((intBits m : Int) - p) + tz (m.fdiv (2 ^ ((intBits m : Int) - p).toNat)) - K).toNat ≤ _ ∧ _ ≤ sM (m.fdiv (2 ^ ((intBits m : Int) - p).toNat)) * 2 ^ (e + ((intBits m : Int) - p) + tz (m.fdiv (2 ^ ((intBits m : Int) - p).toNat)) - K).toNat * _) ∧ (_ → ∀ K : Int, K ≤ e → sM (m.fdiv (2 ^ ((intBits m : Int) - p).toNat)) * 2 ^ (e + ((intBits m : Int) - p) + tz (m.fdiv (2 ^ ((intBits m : Int) - p).toNat)) - K).toNat = _)
    have hq : 0 < m.fdiv (2 ^ ((intBits m : Int) - p).toNat) := by omega
    have hbq : intBits (m.fdiv (2 ^ ((intBits m : Int) - p).toNat)) ≤ p.toNat + 1 := bits_of_le (Int.le_of_lt hq) (by omega)
    have hbq2 := bits_odd hq
    have ⟨q1, q2, q3⟩ := sM_spec hq
    have hexq : (intBits (sM m) : Int) ≤ p → m.fdiv (2 ^ ((intBits m : Int) - p).toNat) * 2 ^ ((intBits m : Int) - p).toNat = m := fun h => by
      have ht : ((intBits m : Int) - p).toNat ≤ tz m := by omega
      have em : m = 2 ^ ((intBits m : Int) - p).toNat * (2 ^ (tz m - ((intBits m : Int) - p).toNat) * sM m) := by
        rw [← Int.mul_assoc, ← Int.pow_add, show ((intBits m : Int) - p).toNat + (tz m - ((intBits m : Int) - p).toNat) = tz m by omega]
        exact g1
      have e2 : m.fdiv (2 ^ ((intBits m : Int) - p).toNat) = 2 ^ (tz m - ((intBits m : Int) - p).toNat) * sM m := by
        generalize ((intBits m : Int) - p).toNat = n at *
        generalize (2 ^ (tz m - n) * sM m) = c at *
        rw [em, fdiv_mul_pow]
      rw [e2, Int.mul_comm]
      exact em.symm
    generalize hnn : (intBits m : Int) - p = n at *
    have hbpos := bits_pos q3
    have hbits : intBits m = p.toNat + n.toNat := by omega
    have hbqs : tz (m.fdiv (2 ^ n.toNat)) ≤ p.toNat := by omega
    generalize m.fdiv (2 ^ n.toNat) = q at *
    have hval : ∀ K : Int, K ≤ e → sM q * 2 ^ (e + n + tz q - K).toNat = q * 2 ^ n.toNat * 2 ^ (e - K).toNat := fun K hK => by
      rw [show (e + n + tz q - K).toNat = tz q + n.toNat + (e - K).toNat by omega, Int.pow_add, Int.pow_add]
      have : q * 2 ^ n.toNat * 2 ^ (e - K).toNat = 2 ^ tz q * sM q * 2 ^ n.toNat * 2 ^ (e - K).toNat := by rw [← q1]
      rw [this]
      grind
    refine ⟨q3, by omega, by omega, fun K hK => ?_, fun h K hK => ?_⟩
    · rw [hval K hK]
      have hY := pow2_pos (e - K).toNat
      refine ⟨Int.mul_le_mul_of_nonneg_right f1 (Int.le_of_lt hY), ?_⟩
      have c1 : m * 2 ^ (p - 1).toNat ≤ q * 2 ^ n.toNat * (2 ^ (p - 1).toNat + 1) := by
        have d1 := Int.mul_le_mul_of_nonneg_right (Int.le_of_lt f2) (Int.le_of_lt hp1)
        have d2 := Int.mul_le_mul_of_nonneg_right hr.1 (Int.le_of_lt hn1)
        have x1 : (q * 2 ^ n.toNat + 2 ^ n.toNat) * (2:Int) ^ (p - 1).toNat = q * 2 ^ n.toNat * 2 ^ (p - 1).toNat + 2 ^ (p - 1).toNat * 2 ^ n.toNat := by grind
        have x2 : q * 2 ^ n.toNat * ((2:Int) ^ (p - 1).toNat + 1) = q * 2 ^ n.toNat * 2 ^ (p - 1).toNat + q * 2 ^ n.toNat := by grind
        omega
      have c2 := Int.mul_le_mul_of_nonneg_right c1 (Int.le_of_lt hY)
      have x1 : m * 2 ^ (e - K).toNat * (2:Int) ^ (p - 1).toNat = m * 2 ^ (p - 1).toNat * 2 ^ (e - K).toNat := by grind
      have x2 : q * 2 ^ n.toNat * 2 ^ (e - K).toNat * ((2:Int) ^ (p - 1).toNat + 1) = q * 2 ^ n.toNat * (2 ^ (p - 1).toNat + 1) * 2 ^ (e - K).toNat := by grind
      omega
    · rw [hval K hK, hexq h]
  · show 0 < sM m ∧ e ≤ e + tz m ∧ e + tz m ≤ e + intBits m ∧ (∀ K : Int, K ≤ e → sM m * 2 ^ (e + tz m - K).toNat ≤ _ ∧ _ ≤ sM m * 2 ^ (e + tz m - K).toNat * _) ∧ (_ → ∀ K : Int, K ≤ e → sM m * 2 ^ (e + tz m - K).toNat = _)
    have hval : ∀ K : Int, K ≤ e → sM m * 2 ^ (e + tz m - K).toNat = m * 2 ^ (e - K).toNat := fun K hK => by
      rw [show (e + tz m - K).toNat = tz m + (e - K).toNat by omega, Int.pow_add]
      have : m * 2 ^ (e - K).toNat = 2 ^ tz m * sM m * 2 ^ (e - K).toNat := by rw [← g1]
      rw [this]
      grind
    refine ⟨g3, by omega, by omega, fun K hK => ?_, fun _ K hK => hval K hK⟩
    rw [hval K hK]
    have hY := Int.mul_pos hm (pow2_pos (e - K).toNat)
    refine ⟨Int.le_refl _, ?_⟩
    rw [Int.mul_add, Int.mul_one]
    omega
/-- the square, by the lesser exponent -/
@[irreducible] def hyS (one low two high : Int) : Int := one * 2 ^ (low - lst low high).toNat * (one * 2 ^ (low - lst low high).toNat) + two * 2 ^ (high - lst low high).toNat * (two * 2 ^ (high - lst low high).toNat)
theorem hyS_def (one low two high : Int) : hyS one low two high = one * 2 ^ (low - lst low high).toNat * (one * 2 ^ (low - lst low high).toNat) + two * 2 ^ (high - lst low high).toNat * (two * 2 ^ (high - lst low high).toNat) := by unfold hyS; rfl
open Classical in
/-- what hypot gives -/
noncomputable def hyv (wy : Way) (one low two high most : Int) : Int × Int × Int :=
  if one = 0 then (if two = 0 then (0, 0, 0) else rn wy (sM (absI two)) (high + tz (absI two)) most)
  else if two = 0 then rn wy (sM (absI one)) (low + tz (absI one)) most
  else lr wy (hyR (sM (absI one)) (low + tz (absI one)) (sM (absI two)) (high + tz (absI two)) most).1 (hyR (sM (absI one)) (low + tz (absI one)) (sM (absI two)) (high + tz (absI two)) most).2.1 most
theorem sq_val {a e l : Int} (ha : a ≠ 0) (hl : l ≤ e) : sM (absI a) * sM (absI a) * 2 ^ (2 * (e + tz (absI a)) - 2 * l).toNat = a * 2 ^ (e - l).toNat * (a * 2 ^ (e - l).toNat) := by
  have hp := absI_pos ha
  have ⟨g1, g2, g3⟩ := sM_spec hp
  have hs := absI_sq a
  rw [show (2 * (e + tz (absI a)) - 2 * l).toNat = tz (absI a) + tz (absI a) + ((e - l).toNat + (e - l).toNat) by omega, Int.pow_add, Int.pow_add, Int.pow_add]
  have x : a * 2 ^ (e - l).toNat * (a * 2 ^ (e - l).toNat) = a * a * (2 ^ (e - l).toNat * 2 ^ (e - l).toNat) := by grind
  rw [x, ← hs]
  have y : absI a * absI a = 2 ^ tz (absI a) * sM (absI a) * (2 ^ tz (absI a) * sM (absI a)) := by rw [← g1]
  rw [y]
  grind
theorem sq_pos {a : Int} (h : a ≠ 0) : 0 < a * a := by
  rcases (show a < 0 ∨ 0 < a by omega) with h | h
  · exact Int.mul_pos_of_neg_of_neg h h
  · exact Int.mul_pos h h
theorem sq_nonneg (a : Int) : 0 ≤ a * a := by
  by_cases h : a = 0
  · subst h; simp
  · exact Int.le_of_lt (sq_pos h)
theorem mul_pow_ne {a : Int} (h : a ≠ 0) (k : Nat) : a * 2 ^ k ≠ 0 := fun e => by
  rcases Int.mul_eq_zero.mp e with e | e
  · exact h e
  · have := pow2_pos k; omega
theorem hyS_pos {one low two high : Int} (h : one ≠ 0 ∨ two ≠ 0) : 0 < hyS one low two high := by
  rw [hyS_def]
  rcases h with h | h
  · have := sq_pos (mul_pow_ne h (low - lst low high).toNat)
    have := sq_nonneg (two * 2 ^ (high - lst low high).toNat)
    omega
  · have := sq_pos (mul_pow_ne h (high - lst low high).toNat)
    have := sq_nonneg (one * 2 ^ (low - lst low high).toNat)
    omega
theorem less_eq_K {w1 p1 w2 p2 K : Int} (h1 : K ≤ p1) (h2 : K ≤ p2) (h : w1 * 2 ^ (p1 - K).toNat = w2 * 2 ^ (p2 - K).toNat) : lessv w1 p1 w2 p2 = 0 := (less_sign h1 h2).2.2.2.mpr h
theorem hyR_val {one low two high : Int} (h1 : one ≠ 0) (h2 : two ≠ 0) {K : Int} (hK : K = 2 * lst low high) : K ≤ lst (low + tz (absI one) + (low + tz (absI one))) (high + tz (absI two) + (high + tz (absI two))) ∧
    addM (sM (absI one) * sM (absI one)) (low + tz (absI one) + (low + tz (absI one))) (sM (absI two) * sM (absI two)) (high + tz (absI two) + (high + tz (absI two))) * 2 ^ (lst (low + tz (absI one) + (low + tz (absI one))) (high + tz (absI two) + (high + tz (absI two))) - K).toNat = hyS one low two high := by
  have ⟨l1, l2, l3⟩ := lst_le (low + tz (absI one) + (low + tz (absI one))) (high + tz (absI two) + (high + tz (absI two)))
  have ⟨k1, k2, k3⟩ := lst_le low high
  have hKL : K ≤ lst (low + tz (absI one) + (low + tz (absI one))) (high + tz (absI two) + (high + tz (absI two))) := by omega
  refine ⟨hKL, ?_⟩
  unfold addM
  rw [Int.add_mul, Int.mul_assoc (sM (absI one) * sM (absI one)), Int.mul_assoc (sM (absI two) * sM (absI two)), ← pow_split hKL l1, ← pow_split hKL l2, hyS_def, ← sq_val h1 k1, ← sq_val h2 k2, hK]
  congr 3 <;> omega
theorem abs_bits {a : Int} (h : -1000 ≤ a ∧ a ≤ 1000) (h0 : a ≠ 0) : intBits (absI a) ≤ 10 ∧ intBits (sM (absI a)) ≤ 10 ∧ tz (absI a) ≤ 10 := by
  have hb := bits_odd (absI_pos h0)
  have : intBits (absI a) ≤ 10 := intBits_le (by unfold absI; split <;> omega)
  omega
theorem lr_exp {wy : Way} {whole power most : Int} (hw : 0 < whole) (hm : 1 ≤ most) (hm2 : most ≤ 100) (hb : intBits whole ≤ 200) (hp : -100 ≤ power ∧ power ≤ 200) : -400 ≤ (lr wy whole power most).2.1 ∧ (lr wy whole power most).2.1 ≤ 400 := by
  obtain ⟨F, hF⟩ := root_ex (power := power) hw hm
  rw [lr_of hw hm hF]
  have ⟨p1, p2⟩ := place_facts whole power most
  have hup := lrUp_or wy F (((intBits whole : Int) + power + 1).fdiv 2 - most) whole power
  generalize lrUp wy F (((intBits whole : Int) + power + 1).fdiv 2 - most) whole power = up at *
  generalize (((intBits whole : Int) + power + 1).fdiv 2 - most) = P at *
  have h0 := pow2_pos (most - 1).toNat
  have hGpos : 0 < F + up := by have := hF.1; omega
  have hbits := bits_odd hGpos
  have hbG : intBits (F + up) ≤ most.toNat + 1 := bits_of_le (Int.le_of_lt hGpos) (by have := hF.2.1; omega)
  show -400 ≤ P + tz (F + up) ∧ P + tz (F + up) ≤ 400
  omega
theorem hyS_bits {one low two high : Int} (b1 : -1000 ≤ one ∧ one ≤ 1000) (b2 : -1000 ≤ two ∧ two ≤ 1000) (c1 : -10 ≤ low ∧ low ≤ 10) (c2 : -10 ≤ high ∧ high ≤ 10) : intBits (one * 2 ^ (low - lst low high).toNat) ≤ 31 ∧ intBits (two * 2 ^ (high - lst low high).toNat) ≤ 31 ∧ intBits (hyS one low two high) ≤ 63 := by
  have ⟨l1, l2, l3⟩ := lst_le low high
  have d1 := bits_mul (intBits_le (a := one) (k := 10) (by omega)) (bits_two_pow (k := (low - lst low high).toNat) (m := 20) (by omega))
  have d2 := bits_mul (intBits_le (a := two) (k := 10) (by omega)) (bits_two_pow (k := (high - lst low high).toNat) (m := 20) (by omega))
  have := bits_add (bits_mul d1 d1) (bits_mul d2 d2)
  rw [← hyS_def] at this
  omega
/-- the plain law of the hypotenuse -/
theorem hyp_fit (wy : Way) {one low two high most : Int} (h : one ≠ 0 ∨ two ≠ 0) (hm : 4 ≤ most) (hm2 : most ≤ 60) (b1 : -1000 ≤ one ∧ one ≤ 1000) (b2 : -1000 ≤ two ∧ two ≤ 1000) (c1 : -10 ≤ low ∧ low ≤ 10) (c2 : -10 ≤ high ∧ high ≤ 10) :
    ((intBits (sM (hyS one low two high)) : Int) ≤ most + 4 → hyv wy one low two high most = lr wy (hyS one low two high) (2 * lst low high) most) ∧ Near wy (hyS one low two high) (2 * lst low high) most (hyv wy one low two high most) ∧ -400 ≤ (hyv wy one low two high most).2.1 ∧ (hyv wy one low two high most).2.1 ≤ 400 := by
  have hS := hyS_pos (low := low) (high := high) h
  have ⟨l1, l2, l3⟩ := lst_le low high
  have hSb := (hyS_bits b1 b2 c1 c2).2.2
  have hlre := lr_exp (wy := wy) (power := 2 * lst low high) hS (show 1 ≤ most by omega) (by omega) (Nat.le_trans hSb (by decide)) (by omega)
  unfold hyv
  split
  · rename_i h1
    have h2 : two ≠ 0 := by omega
    rw [if_neg h2]
    have e : rn wy (sM (absI two)) (high + tz (absI two)) most = lr wy (hyS one low two high) (2 * lst low high) most := by
      refine rn_exact wy (by omega) (sM_spec (absI_pos h2)).2.2 hS (less_eq_K (K := 2 * lst low high) (by omega) (by omega) ?_)
      rw [sq_val h2 l2, hyS_def, h1, show (2 * lst low high - 2 * lst low high).toNat = 0 by omega]
      simp
    rw [e]
    exact ⟨fun _ => rfl, near_exact wy hS hm, hlre⟩
  · rename_i h1
    split
    · rename_i h2
      have e : rn wy (sM (absI one)) (low + tz (absI one)) most = lr wy (hyS one low two high) (2 * lst low high) most := by
        refine rn_exact wy (by omega) (sM_spec (absI_pos h1)).2.2 hS (less_eq_K (K := 2 * lst low high) (by omega) (by omega) ?_)
        rw [sq_val h1 l1, hyS_def, h2, show (2 * lst low high - 2 * lst low high).toNat = 0 by omega]
        simp
      rw [e]
      exact ⟨fun _ => rfl, near_exact wy hS hm, hlre⟩
    · rename_i h2
      have ⟨hKL, hv⟩ := hyR_val (low := low) (high := high) h1 h2 (K := 2 * lst low high) rfl
      have s1 := (sM_spec (absI_pos h1)).2.2
      have s2 := (sM_spec (absI_pos h2)).2.2
      have hZ := addM_pos (e1 := low + tz (absI one) + (low + tz (absI one))) (e2 := high + tz (absI two) + (high + tz (absI two))) (Int.mul_pos s1 s1) (Int.mul_pos s2 s2)
      have ⟨r1, r2, r2', r3, r4⟩ := rn_cut (e := lst (low + tz (absI one) + (low + tz (absI one))) (high + tz (absI two) + (high + tz (absI two)))) hZ (p := most + 4) (by omega)
      have hrb := rn_bits_le .d (e := lst (low + tz (absI one) + (low + tz (absI one))) (high + tz (absI two) + (high + tz (absI two)))) hZ (p := most + 4) (by omega)
      have a1 := abs_bits b1 h1
      have a2 := abs_bits b2 h2
      have ⟨m1, m2, m3⟩ := lst_le (low + tz (absI one) + (low + tz (absI one))) (high + tz (absI two) + (high + tz (absI two)))
      have hZb : intBits (addM (sM (absI one) * sM (absI one)) (low + tz (absI one) + (low + tz (absI one))) (sM (absI two) * sM (absI two)) (high + tz (absI two) + (high + tz (absI two)))) ≤ 63 := by
        have e1 := bits_mul_pow hZ (lst (low + tz (absI one) + (low + tz (absI one))) (high + tz (absI two) + (high + tz (absI two))) - 2 * lst low high).toNat
        rw [Int.mul_comm, hv] at e1
        omega
      have r3' := r3 _ hKL
      have r4' := fun h => r4 h _ hKL
      have hodd : sM (addM (sM (absI one) * sM (absI one)) (low + tz (absI one) + (low + tz (absI one))) (sM (absI two) * sM (absI two)) (high + tz (absI two) + (high + tz (absI two)))) = sM (hyS one low two high) := by
        have := (sM_mul hZ (lst (low + tz (absI one) + (low + tz (absI one))) (high + tz (absI two) + (high + tz (absI two))) - 2 * lst low high).toNat).1
        rw [Int.mul_comm, hv] at this
        exact this.symm
      rw [hodd] at r4'
      rw [hv] at r3' r4'
      unfold hyR
      generalize rn .d (addM (sM (absI one) * sM (absI one)) (low + tz (absI one) + (low + tz (absI one))) (sM (absI two) * sM (absI two)) (high + tz (absI two) + (high + tz (absI two)))) (lst (low + tz (absI one) + (low + tz (absI one))) (high + tz (absI two) + (high + tz (absI two)))) (most + 4) = r at *
      have e8 : (2:Int) ^ (most + 4 - 1).toNat = 8 * 2 ^ most.toNat := by
        rw [show (most + 4 - 1).toNat = most.toNat + 3 by omega, Int.pow_add]; omega
      rw [e8] at r3'
      have e0 : (2 * lst low high - 2 * lst low high).toNat = 0 := by omega
      refine ⟨fun hb => lr_val r1 hS (by omega) (less_eq_K (K := 2 * lst low high) (by omega) (Int.le_refl _) ?_), near_lr wy r1 hm ?_ ?_, lr_exp r1 (by omega) (by omega) (by omega) (by omega)⟩
      · rw [r4' hb, e0]; simp
      · rw [(less_sign (K := 2 * lst low high) (by omega) (Int.le_refl _)).1, e0]
        have := r3'.1
        omega
      · rw [(less_sign (K := 2 * lst low high) (Int.le_refl _) (by omega)).1, e0]
        have := r3'.2
        have x : r.1 * (8 * 2 ^ most.toNat + 1) * 2 ^ (r.2.1 - 2 * lst low high).toNat = r.1 * 2 ^ (r.2.1 - 2 * lst low high).toNat * (8 * 2 ^ most.toNat + 1) := by grind
        omega
/-- either way round -/
theorem addM_comm (m1 e1 m2 e2 : Int) : addM m1 e1 m2 e2 = addM m2 e2 m1 e1 := by
  have : lst e1 e2 = lst e2 e1 := by unfold lst; split <;> split <;> omega
  unfold addM
  rw [this, Int.add_comm]
theorem hyv_comm (wy : Way) (one low two high most : Int) : hyv wy one low two high most = hyv wy two high one low most := by
  unfold hyv hyR
  rw [addM_comm, show ∀ a b, lst a b = lst b a by intro a b; unfold lst; split <;> split <;> omega]
  by_cases h1 : one = 0 <;> by_cases h2 : two = 0 <;> simp [h1, h2]
theorem hyS_zero {low high : Int} : hyS 0 low 0 high = 0 := by rw [hyS_def]; simp
end Mine

namespace Mine
open PySem.Builtin.Int (intBits)
theorem Ctr.mono {w : World} {f : Addr} {dep : Nat} {news : List (Addr × Obj)} {vs : List Value} {Ret Ret' : (Heap → Addr → (Str → Option Value) → Shared → (Value → Shared → Prop) → Prop)} (C : Ctr w f dep news vs Ret)
    (h : ∀ h₀ L m s Q, Ret' h₀ L m s Q → Ret h₀ L m s Q) : Ctr w f dep news vs Ret' :=
  fun pp loose mean mg mb dp un gd cn cs a ccd cl outer A₀ base h₀ L m s hx Q E B F X N T hk hd hu hc ret => C pp loose mean mg mb dp un gd cn cs a ccd cl outer A₀ base h₀ L m s hx Q E B F X N T hk hd hu hc (h _ _ _ _ _ ret)
/-- four ints at an address, or the text's own nought -/
def IsV (p : Addr × Obj) (D : Addr) (g m e b : Int) : Prop := (0 < m ∧ ∃ t u v x, p = (D, o4 g m e b t u v x)) ∨ (D = 56 ∧ g = 0 ∧ m = 0 ∧ e = 0 ∧ b = 0)
abbrev RetV (news : List (Addr × Obj)) (g m e b : Int) (h₀ : Heap) (L : Addr) (mm : Str → Option Value) (s : Shared) (Q : Value → Shared → Prop) : Prop :=
  ∀ (D : Addr) (p : Addr × Obj) (h' : Heap) (tk' : Nat), IsV p D g m e b → Fr h₀ L h' mm → News h₀ L h' (p :: news) → Q (.ref D) { s with heap := h', toks := tk' }
section
variable {news : List (Addr × Obj)} {h₀ h : Heap} {L D : Addr} {mm : Str → Option Value} {s : Shared} {Q : Value → Shared → Prop} {p : Addr × Obj} {g m e b : Int}
theorem retV_T4 (hm : 0 < m) (hret : RetV news g m e b h₀ L mm s Q) : RetT4 news g m e b h₀ L mm s Q :=
  fun D t u v x h' tk' F N => hret D (D, o4 g m e b t u v x) h' tk' (.inl ⟨hm, t, u, v, x, rfl⟩) F N
theorem news_cons (N : News h₀ L h news) (hp : p ∈ news) : News h₀ L h (p :: news) := news_sub1 N hp (fun _ h => h)
theorem retV_Z (hp : p ∈ news) (hg : g = 0) (hm : m = 0) (he : e = 0) (hb : b = 0) (hret : RetV news g m e b h₀ L mm s Q) : RetZ news h₀ L mm s Q :=
  fun h' tk' F N => hret 56 p h' tk' (.inr ⟨rfl, hg, hm, he, hb⟩) F (news_cons N hp)
theorem IsT4.of_V {w : World} (V : IsV p D g m e b) (N : News h₀ L h news) (hp : p ∈ news) (X : (hd.heap_39 w.params).In h) : IsT4 h D g m e b := by
  rcases V with ⟨_, t, u, v, x, rfl⟩ | ⟨rfl, rfl, rfl, rfl, rfl⟩
  · exact IsT4.of_news N hp
  · exact IsT4.of_K X
end
section
variable {prog : Program} {w : World} {A : Around} {E : Value → Shared → Prop} {s : Shared} {D : Addr} {a b c d : Int} {Q : Value → Shared → Prop}
theorem item4 {value slice : PySem.Expr} {u : Tok} {k r : Int} (I : IsT4 s.heap D a b c d) (hk : (k = 0 ∧ r = a) ∨ (k = 1 ∧ r = b) ∨ (k = 2 ∧ r = c) ∨ (k = 3 ∧ r = d)) (h : ∀ t, Q (.int r t) s)
    (hs : subscripted slice false (.ref D) (.int k u) = operate [.ref D, .int k u] (getItem (.ref D) (.int k u)) := by with_unfolding_all rfl) :
    wpAny (model prog w) A (subscriptTail value slice (.ref D) (.int k u)) Q E s := by
  obtain ⟨o, t, u', v, x, n, h1, h2, h3⟩ := I
  have ht : IsTup s.heap D [Value.int a t, .int b u', .int c v, .int d x].toArray := ⟨o, h1, h2, n, h3⟩
  rcases hk with ⟨rfl, rfl⟩ | ⟨rfl, rfl⟩ | ⟨rfl, rfl⟩ | ⟨rfl, rfl⟩
  · exact item_tupleT ht (by decide) (by decide) rfl rfl (h _) hs
  · exact item_tupleT ht (by decide) (by decide) rfl rfl (h _) hs
  · exact item_tupleT ht (by decide) (by decide) rfl rfl (h _) hs
  · exact item_tupleT ht (by decide) (by decide) rfl rfl (h _) hs
end
theorem sM_zero : sM 0 = 0 := by unfold sM; simp
theorem bits_zero : intBits 0 = 0 := by decide
theorem absI_zero : absI 0 = 0 := by unfold absI; simp
theorem absI_nn {n : Int} (h : 0 ≤ n) : absI n = n := by unfold absI; rw [if_neg (by omega)]
theorem sgn_nn {n : Int} (h : 0 ≤ n) : sgn n = 0 := by unfold sgn; rw [if_neg (by omega)]
@[irreducible] noncomputable def fexp (n e : Int) : Int := if n = 0 then 0 else e + tz (absI n)
theorem fexp_nz {n e : Int} (h : n ≠ 0) : fexp n e = e + tz (absI n) := by unfold fexp; rw [if_neg h]
theorem fexp_z {e : Int} : fexp 0 e = 0 := by unfold fexp; rw [if_pos rfl]
theorem sM_pos {n : Int} (h : 0 < n) : 0 < sM n := (sM_spec h).2.2
/-- any number -/
theorem c_fme_any (w : World) (news : List (Addr × Obj)) (p : Addr × Obj) (n e : Int) (t u : Tok) (hp : p ∈ news) :
    Ctr w 86 2 news [.int n t, .int e u] (RetV news (sgn n) (sM (absI n)) (fexp n e) (intBits (sM (absI n)))) := by
  by_cases h : n = 0
  · subst h
    exact (c_fme_zero w news 0 e t u rfl).mono fun _ _ _ _ _ r => retV_Z hp (sgn_nn (by decide)) (by rw [absI_zero, sM_zero]) fexp_z (by rw [absI_zero, sM_zero]; rfl) r
  · rw [fexp_nz h]
    exact (c_fme_nz w news n e t u h).mono fun _ _ _ _ _ r => retV_T4 (sM_pos (absI_pos h)) r
/-- the law's own tuple -/
theorem c_told_any (w : World) (news : List (Addr × Obj)) (whole power : Int) (t u : Tok) (hw : 0 ≤ whole) :
    Ctr w 155 1 news [.int whole t, .int power u] (RetT4 news 0 (sM whole) (fexp whole power) (intBits (sM whole))) := by
  by_cases h : whole = 0
  · subst h
    rw [fexp_z, sM_zero]
    exact c_told0 w news 0 power t u rfl
  · rw [fexp_nz h, absI_nn hw]
    exact c_told w news whole power t u (by omega)
noncomputable def lrz (wy : Way) (whole power most : Int) : Int × Int × Int := if whole = 0 then (0, 0, 0) else lr wy whole power most
theorem lrz_pos {wy : Way} {whole power most : Int} (h : 0 < whole) : lrz wy whole power most = lr wy whole power most := by unfold lrz; rw [if_neg (by omega)]
theorem lrz_zero {wy : Way} {power most : Int} : lrz wy 0 power most = (0, 0, 0) := by unfold lrz; rw [if_pos rfl]
theorem c_root_any (wy : Way) (w : World) (news : List (Addr × Obj)) (whole power most : Int) (t u v z : Tok) (hw : 0 ≤ whole) (hb : intBits whole ≤ 400) (hp : -300 ≤ power ∧ power ≤ 300) (hm : 1 ≤ most ∧ most ≤ 100) :
    Ctr w 169 4 news [.int whole t, .int power u, .int most v, .str wy.str z] (RetT4 news 0 (lrz wy whole power most).1 (lrz wy whole power most).2.1 (lrz wy whole power most).2.2) := by
  by_cases h : whole = 0
  · subst h
    rw [lrz_zero]
    exact c_root0 wy w news power most t u v z
  · rw [lrz_pos (by omega)]
    exact c_root wy w news whole power most t u v z (by omega) hb hp hm
theorem lr_pos1 (wy : Way) {whole power most : Int} (hw : 0 < whole) (hm : 1 ≤ most) : 0 < (lr wy whole power most).1 := by
  obtain ⟨F, hF⟩ := root_ex (power := power) hw hm
  rw [lr_of hw hm hF]
  have hup := lrUp_or wy F (((intBits whole : Int) + power + 1).fdiv 2 - most) whole power
  have h0 := pow2_pos (most - 1).toNat
  exact sM_pos (by have := hF.1; omega)
theorem lr_odd {wy : Way} {n e most : Int} (hn : 0 < n) (hm : 1 ≤ most) : lr wy (sM n) (e + tz n) most = lr wy n e most := by
  refine lr_val (sM_pos hn) hn hm (less_eq_K (K := e) (by omega) (Int.le_refl _) ?_)
  rw [show (e + tz n - e).toNat = tz n by omega, show (e - e).toNat = 0 by omega, Int.mul_comm]
  have := (sM_spec hn).1
  rw [← this]; simp
/-- the square root of what from_man_exp made -/
theorem c_sqrt_any (wy : Way) (w : World) (news : List (Addr × Obj)) (p : Addr × Obj) (D : Addr) (n e prec : Int) (y z : Tok) (V : IsV p D (sgn n) (sM (absI n)) (fexp n e) (intBits (sM (absI n)))) (hp : p ∈ news) (hn : 0 ≤ n) (h1 : 1 ≤ prec) (h2 : prec ≤ 1000) (hb : intBits n ≤ 1000) :
    Ctr w 133 6 news [.ref D, .int prec y, .str wy.str z] (RetV news 0 (lrz wy n e prec).1 (lrz wy n e prec).2.1 (lrz wy n e prec).2.2) := by
  rcases V with ⟨hm, t, u, v, x, rfl⟩ | ⟨rfl, _, hm, _, _⟩
  · have h0 : n ≠ 0 := fun h => by subst h; rw [absI_zero, sM_zero] at hm; omega
    rw [sgn_nn hn, fexp_nz h0, absI_nn hn] at hp
    rw [absI_nn hn] at hm
    have hbo := bits_odd (show 0 < n by omega)
    rw [lrz_pos (by omega), ← lr_odd (by omega) h1]
    exact (c_sqrt wy w news D (sM n) (e + tz n) prec t u v x y z hp hm h1 h2 (by omega)).mono fun _ _ _ _ _ r => retV_T4 (lr_pos1 wy hm h1) r
  · have h0 : n = 0 := by
      rw [absI_nn hn] at hm
      rcases (show n = 0 ∨ 0 < n by omega) with h | h
      · exact h
      · have := sM_pos h; omega
    subst h0
    rw [lrz_zero]
    exact (c_sqrt0 wy w news prec y z).mono fun _ _ _ _ _ r => retV_Z hp rfl rfl rfl rfl r
theorem hyR_bits' {wy : Way} {one low two high : Int} {prec : Int} (h1 : one ≠ 0) (h2 : two ≠ 0) (hp : 1 ≤ prec) : 0 < (lr wy (hyR (sM (absI one)) (low + tz (absI one)) (sM (absI two)) (high + tz (absI two)) prec).1 (hyR (sM (absI one)) (low + tz (absI one)) (sM (absI two)) (high + tz (absI two)) prec).2.1 prec).1 :=
  lr_pos1 wy (hyR_pos (sM_pos (absI_pos h1)) (sM_pos (absI_pos h2)) hp) hp
/-- the hypotenuse of what from_man_exp made -/
theorem c_hypot_any (wy : Way) (w : World) (news : List (Addr × Obj)) (p1 p2 : Addr × Obj) (D D2 : Addr) (one low two high prec : Int) (y z : Tok) (V1 : IsV p1 D (sgn one) (sM (absI one)) (fexp one low) (intBits (sM (absI one)))) (V2 : IsV p2 D2 (sgn two) (sM (absI two)) (fexp two high) (intBits (sM (absI two)))) (hp1 : p1 ∈ news) (hp2 : p2 ∈ news)
    (b1 : -1000 ≤ one ∧ one ≤ 1000) (b2 : -1000 ≤ two ∧ two ≤ 1000) (c1 : -10 ≤ low ∧ low ≤ 10) (c2 : -10 ≤ high ∧ high ≤ 10) (h1 : 1 ≤ prec) (h2 : prec ≤ 900) :
    Ctr w 141 12 news [.ref D, .ref D2, .int prec y, .str wy.str z] (RetV news 0 (hyv wy one low two high prec).1 (hyv wy one low two high prec).2.1 (hyv wy one low two high prec).2.2) := by
  have zero : ∀ {n : Int}, sM (absI n) = 0 → n = 0 := fun {n} h => by
    rcases (show n = 0 ∨ n ≠ 0 by omega) with h0 | h0
    · exact h0
    · have := sM_pos (absI_pos h0); omega
  have nonz : ∀ {n : Int}, 0 < sM (absI n) → n ≠ 0 := fun {n} h e => by subst e; rw [absI_zero, sM_zero] at h; omega
  unfold hyv
  rcases V1 with ⟨hm1, t, u, v, x, rfl⟩ | ⟨rfl, _, hm1, _, _⟩
  · have n1 := nonz hm1
    have a1 := abs_bits b1 n1
    rw [fexp_nz n1] at hp1
    rw [if_neg n1]
    rcases V2 with ⟨hm2, t', u', v', x', rfl⟩ | ⟨rfl, _, hm2, _, _⟩
    · have n2 := nonz hm2
      have a2 := abs_bits b2 n2
      rw [fexp_nz n2] at hp2
      rw [if_neg n2]
      exact (c_hypot_pp wy w news D D2 (sgn one) (sM (absI one)) (low + tz (absI one)) (sgn two) (sM (absI two)) (high + tz (absI two)) prec t u v x t' u' v' x' y z hp1 hp2 (sgn_or _) (sgn_or _) hm1 hm2 (by omega) h1 h2 (by omega) (by omega)).mono fun _ _ _ _ _ r => retV_T4 (hyR_bits' n1 n2 h1) r
    · have n2 := zero hm2
      rw [if_pos n2]
      exact (c_hypot_p0 wy w news D (sgn one) (sM (absI one)) (low + tz (absI one)) prec t u v x y z hp1 hm1 h1 h2 (by omega)).mono fun _ _ _ _ _ r => retV_T4 (rn_pos wy hm1 h1) r
  · have n1 := zero hm1
    rw [if_pos n1]
    rcases V2 with ⟨hm2, t', u', v', x', rfl⟩ | ⟨rfl, _, hm2, _, _⟩
    · have n2 := nonz hm2
      have a2 := abs_bits b2 n2
      rw [fexp_nz n2] at hp2
      rw [if_neg n2]
      exact (c_hypot_0p wy w news D2 (sgn two) (sM (absI two)) (high + tz (absI two)) prec t' u' v' x' y z hp2 hm2 h1 h2 (by omega)).mono fun _ _ _ _ _ r => retV_T4 (rn_pos wy hm2 h1) r
    · have n2 := zero hm2
      rw [if_pos n2]
      exact (c_hypot_00 wy w news prec y z h1).mono fun _ _ _ _ _ r => retV_Z hp1 rfl rfl rfl rfl r
end Mine

namespace Mine
open PySem.Builtin.Int (intBits)
abbrev rawL (low high : Int) : Int := if high < low then high else low
abbrev rawS (one low two high : Int) : Int := (one * 2 ^ (low - (if high < low then high else low)).toNat) ^ Int.toNat 2 + (two * 2 ^ (high - (if high < low then high else low)).toNat) ^ Int.toNat 2
theorem rawL_eq (low high : Int) : (if high < low then high else low) = lst low high := by unfold lst; rfl
theorem rawS_eq (one low two high : Int) : rawS one low two high = hyS one low two high := by unfold rawS; rw [rawL_eq, pow_two', pow_two', hyS_def]
/-- all that the law's hypotenuse asks, for one choice of numbers -/
structure HypAll (wy : Way) (one low two high most L S u : Int) : Prop where
  small : (intBits (sM S) : Int) ≤ most + 4 → decide ((0 : Int) = 0 ∧ (hyv wy one low two high most).1 = (lrz wy S (2 * L) most).1 ∧ (hyv wy one low two high most).2.1 = (lrz wy S (2 * L) most).2.1 ∧ (hyv wy one low two high most).2.2 = (lrz wy S (2 * L) most).2.2) = true
  near : ¬ (intBits (sM S) : Int) ≤ most + 4 → Near wy S (2 * L) most (hyv wy one low two high most)
  comm : (!decide ((0 : Int) = 0 ∧ (hyv wy one low two high most).1 = (hyv wy two high one low most).1 ∧ (hyv wy one low two high most).2.1 = (hyv wy two high one low most).2.1 ∧ (hyv wy one low two high most).2.2 = (hyv wy two high one low most).2.2)) = false
  hu : u = 2 ^ most.toNat
  b1 : -1000 ≤ one ∧ one ≤ 1000
  b2 : -1000 ≤ two ∧ two ≤ 1000
  c1 : -10 ≤ low ∧ low ≤ 10
  c2 : -10 ≤ high ∧ high ≤ 10
  m1 : 1 ≤ most
  m2 : most ≤ 900
  m3 : 1 ≤ most ∧ most ≤ 100
  m4 : 0 ≤ most
  l1 : -300 ≤ 2 * L ∧ 2 * L ≤ 300
  l2 : -1000 ≤ 2 * L ∧ 2 * L ≤ 1000
  n1 : 0 ≤ low - L
  n2 : 0 ≤ high - L
  s0 : 0 ≤ S
  sb : intBits S ≤ 400
  sb2 : intBits S ≤ 4000
  x1 : (intBits 2 : Int) * (low - L) ≤ 2 ^ 27
  x2 : (intBits 2 : Int) * (high - L) ≤ 2 ^ 27
  x3 : IntMulOk one (2 ^ (low - L).toNat)
  x4 : IntMulOk two (2 ^ (high - L).toNat)
  x5 : (intBits (one * 2 ^ (low - L).toNat) : Int) * 2 ≤ 2 ^ 27
  x6 : (intBits (two * 2 ^ (high - L).toNat) : Int) * 2 ≤ 2 ^ 27
  y1 : (intBits 2 : Int) * most ≤ 2 ^ 27
  y2 : (intBits (u - 4) : Int) * 2 ≤ 2 ^ 27
  y3 : (intBits (u + 4) : Int) * 2 ≤ 2 ^ 27
  y4 : IntMulOk S ((u - 4) ^ Int.toNat 2)
  y5 : IntMulOk S ((u + 4) ^ Int.toNat 2)
  y6 : intBits (S * (u - 4) ^ Int.toNat 2) ≤ 4000
  y7 : intBits (S * (u + 4) ^ Int.toNat 2) ≤ 4000
  z1 : IntMulOk (hyv wy one low two high most).1 (hyv wy one low two high most).1
  z2 : IntMulOk ((hyv wy one low two high most).1 * (hyv wy one low two high most).1) u
  z3 : IntMulOk ((hyv wy one low two high most).1 * (hyv wy one low two high most).1 * u) u
  z4 : intBits ((hyv wy one low two high most).1 * (hyv wy one low two high most).1) ≤ 4000
  z5 : intBits ((hyv wy one low two high most).1 * (hyv wy one low two high most).1 * u * u) ≤ 4000
  e1 : -1000 ≤ 2 * (hyv wy one low two high most).2.1 ∧ 2 * (hyv wy one low two high most).2.1 ≤ 1000
theorem dec4 {a b c d e f : Int} (h : a = d ∧ b = e ∧ c = f) : decide ((0 : Int) = 0 ∧ a = d ∧ b = e ∧ c = f) = true := decide_eq_true ⟨rfl, h⟩
theorem hyp_all (wy : Way) (one low two high most : Int) (b1 : -1000 ≤ one ∧ one ≤ 1000) (b2 : -1000 ≤ two ∧ two ≤ 1000) (c1 : -10 ≤ low ∧ low ≤ 10) (c2 : -10 ≤ high ∧ high ≤ 10) (hm : 4 ≤ most ∧ most ≤ 60) :
    HypAll wy one low two high most (rawL low high) (rawS one low two high) (2 ^ most.toNat) := by
  have ⟨l1, l2, l3⟩ := lst_le low high
  have ⟨sA, sB, sS⟩ := hyS_bits b1 b2 c1 c2
  have hS0 : 0 ≤ hyS one low two high := by
    by_cases h : one ≠ 0 ∨ two ≠ 0
    · exact Int.le_of_lt (hyS_pos h)
    · have h1 : one = 0 := by omega
      have h2 : two = 0 := by omega
      rw [h1, h2, hyS_zero]; exact Int.le_refl _
  have hfit := fun h => hyp_fit wy h hm.1 hm.2 b1 b2 c1 c2
  have hzero : ¬ (one ≠ 0 ∨ two ≠ 0) → hyv wy one low two high most = (0, 0, 0) ∧ hyS one low two high = 0 := fun h => by
    have h1 : one = 0 := by omega
    have h2 : two = 0 := by omega
    rw [h1, h2, hyS_zero]
    unfold hyv
    rw [if_pos rfl, if_pos rfl]
    exact ⟨rfl, rfl⟩
  have hvb : intBits (hyv wy one low two high most).1 ≤ 60 := by
    by_cases h : one ≠ 0 ∨ two ≠ 0
    · have n := (hfit h).2.1
      have a := n.bits
      have b := n.le
      omega
    · rw [(hzero h).1]
      have : intBits (0 : Int) = 0 := bits_zero
      show intBits (0 : Int) ≤ 60
      omega
  have hve : -400 ≤ (hyv wy one low two high most).2.1 ∧ (hyv wy one low two high most).2.1 ≤ 400 := by
    by_cases h : one ≠ 0 ∨ two ≠ 0
    · exact (hfit h).2.2
    · rw [(hzero h).1]; exact ⟨by decide, by decide⟩
  have hu : intBits ((2 : Int) ^ most.toNat) ≤ 61 := bits_two_pow (m := 60) (by omega)
  have hu0 := pow2_pos most.toNat
  have hu4 : (16 : Int) ≤ 2 ^ most.toNat := by
    have := pow2_mono (a := 4) (b := most.toNat) (by omega)
    simpa using this
  have hu1 : intBits ((2 : Int) ^ most.toNat - 4) ≤ 61 := bits_of_natAbs_le (by omega) hu
  have hu2 : intBits ((2 : Int) ^ most.toNat + 4) ≤ 62 := by
    have := bits_add hu (show intBits (4 : Int) ≤ 61 by decide)
    omega
  have q1 : intBits (((2 : Int) ^ most.toNat - 4) ^ Int.toNat 2) ≤ 122 := by rw [pow_two']; exact bits_mul hu1 hu1
  have q2 : intBits (((2 : Int) ^ most.toNat + 4) ^ Int.toNat 2) ≤ 124 := by rw [pow_two']; exact bits_mul hu2 hu2
  have m1 := bits_mul hvb hvb
  have m2 := bits_mul m1 hu
  have m3 := bits_mul m2 hu
  have o1 : intBits one ≤ 10 := intBits_le (by omega)
  have o2 : intBits two ≤ 10 := intBits_le (by omega)
  have p1 : intBits ((2 : Int) ^ (low - lst low high).toNat) ≤ 21 := bits_two_pow (m := 20) (by omega)
  have p2 : intBits ((2 : Int) ^ (high - lst low high).toNat) ≤ 21 := bits_two_pow (m := 20) (by omega)
  have t2 : intBits 2 = 2 := by decide
  have k1 := bits_mul sS q1
  have k2 := bits_mul sS q2
  have eS := rawS_eq one low two high
  have eL : rawL low high = lst low high := rawL_eq low high
  generalize rawS one low two high = S at eS
  generalize rawL low high = L at eL
  subst eS; subst eL
  refine ⟨fun h => ?_, fun h => ?_, ?_, rfl, b1, b2, c1, c2, by omega, by omega, by omega, by omega, by omega, by omega, by omega, by omega, hS0, by omega, by omega, by rw [t2]; omega, by rw [t2]; omega, mulOk_of_bits o1 p1 (by decide), mulOk_of_bits o2 p2 (by decide), by omega, by omega, by rw [t2]; omega, by omega, by omega, mulOk_of_bits sS q1 (by decide), mulOk_of_bits sS q2 (by decide), by omega, by omega, mulOk_of_bits hvb hvb (by decide), mulOk_of_bits m1 hu (by decide), mulOk_of_bits m2 hu (by decide), by omega, by omega, by omega⟩
  · by_cases h0 : one ≠ 0 ∨ two ≠ 0
    · rw [(hfit h0).1 h, lrz_pos (hyS_pos h0)]
      exact dec4 ⟨rfl, rfl, rfl⟩
    · rw [(hzero h0).1, (hzero h0).2, lrz_zero]
      exact dec4 ⟨rfl, rfl, rfl⟩
  · refine (hfit ?_).2.1
    by_cases h0 : one ≠ 0 ∨ two ≠ 0
    · exact h0
    · rw [(hzero h0).2, sM_zero, bits_zero] at h
      omega
  · rw [hyv_comm wy two high one low most, dec4 ⟨rfl, rfl, rfl⟩]; rfl
theorem any_df (wy : Way) : ([Str.ofString "d", Str.ofString "f"].any fun x => x == wy.str) = true ↔ wy.isFD = true := by
  cases wy with
  | n => rw [Way.str_n]; unfold Way.isFD; exact ⟨fun h => absurd h (by decide), fun h => nomatch h⟩
  | f => rw [Way.str_f]; unfold Way.isFD; exact ⟨fun _ => rfl, fun _ => by decide⟩
  | c => rw [Way.str_c]; unfold Way.isFD; exact ⟨fun h => absurd h (by decide), fun h => nomatch h⟩
  | u => rw [Way.str_u]; unfold Way.isFD; exact ⟨fun h => absurd h (by decide), fun h => nomatch h⟩
  | d => rw [Way.str_d]; unfold Way.isFD; exact ⟨fun _ => rfl, fun _ => by decide⟩
section
variable {wy : Way} {one low two high most L S u : Int} (H : HypAll wy one low two high most L S u)
include H
theorem HypAll.e_odd (h : ¬ (intBits (sM S) : Int) ≤ most + 4) (h2 : (hyv wy one low two high most).1.fmod 2 = 0) : False := by
  have := (H.near h).odd
  rw [fmod_two] at h2
  omega
theorem HypAll.e_bits (h : ¬ (intBits (sM S) : Int) ≤ most + 4) (h2 : ((intBits (hyv wy one low two high most).1 : Nat) : Int) ≠ (hyv wy one low two high most).2.2) : False := h2 (H.near h).bits.symm
theorem HypAll.e_le (h : ¬ (intBits (sM S) : Int) ≤ most + 4) (h2 : most < (hyv wy one low two high most).2.2) : False := by
  have := (H.near h).le
  omega
theorem HypAll.e_down (h : ¬ (intBits (sM S) : Int) ≤ most + 4) (h2 : ([Str.ofString "d", Str.ofString "f"].any fun x => x == wy.str) = true) (h3 : lessv ((hyv wy one low two high most).1 * (hyv wy one low two high most).1) (2 * (hyv wy one low two high most).2.1) S (2 * L) < 0) : False := by
  have := (H.near h).down ((any_df wy).mp h2)
  omega
theorem HypAll.e_comm (h : ¬ ((0 : Int) = 0 ∧ (hyv wy one low two high most).1 = (hyv wy two high one low most).1 ∧ (hyv wy one low two high most).2.1 = (hyv wy two high one low most).2.1 ∧ (hyv wy one low two high most).2.2 = (hyv wy two high one low most).2.2)) : False := by
  have := H.comm
  rw [decide_eq_false h] at this
  cases this
theorem HypAll.dlow (h : ¬ (intBits (sM S) : Int) ≤ most + 4) : decide (0 ≤ lessv (S * (u - 4) ^ Int.toNat 2) (2 * L) ((hyv wy one low two high most).1 * (hyv wy one low two high most).1 * u * u) (2 * (hyv wy one low two high most).2.1)) = true := by
  rw [pow_two', H.hu]
  exact decide_eq_true (H.near h).low
theorem HypAll.dhigh (h : ¬ (intBits (sM S) : Int) ≤ most + 4) : decide (0 ≤ lessv ((hyv wy one low two high most).1 * (hyv wy one low two high most).1 * u * u) (2 * (hyv wy one low two high most).2.1) (S * (u + 4) ^ Int.toNat 2) (2 * L)) = true := by
  rw [pow_two', H.hu]
  exact decide_eq_true (H.near h).high
end
end Mine

namespace Mine
open PySem.Builtin.Int (intBits)
/-- what the calls ask of the law's number -/
structure WAll (whole power most : Int) : Prop where
  w0 : 0 ≤ whole
  wb : intBits whole ≤ 400
  wb2 : intBits whole ≤ 1000
  p : -300 ≤ power ∧ power ≤ 300
  m1 : 1 ≤ most ∧ most ≤ 100
  m2 : 1 ≤ most
  m3 : most ≤ 1000
/-- what they ask of the whole root -/
structure BAll (big : Int) : Prop where
  s0 : 0 ≤ big
  sb : intBits big ≤ 4000
  r0 : 0 ≤ isq big * isq big
  rb : intBits (isq big * isq big) ≤ 4000
  ok : IntMulOk (isq big) (isq big)
  e1 : isq big * isq big + (big - isq big * isq big) = big
  e2 : 0 ≤ big - isq big * isq big
  e3 : big - isq big * isq big ≤ 2 * isq big
  e4 : isq (isq big * isq big) = isq big
abbrev rawW (drawn kind most : Int) : Int := [drawn.fmod 70000, drawn.fmod 5, 2 ^ most.toNat + 2 * drawn.fmod (2 ^ (most - 1).toNat) + 1].getD (kind - 1).toNat 0
/-- and of the sizes on the way -/
structure KAll (drawn kind most : Int) : Prop where
  m0 : 0 ≤ most
  m00 : 0 ≤ most - 1
  k1 : (intBits 2 : Int) * most ≤ 2 ^ 27
  k2 : (intBits 2 : Int) * (most - 1) ≤ 2 ^ 27
  k3 : (intBits ([drawn.fmod 70000, drawn.fmod 5, 2 ^ most.toNat + 2 * drawn.fmod (2 ^ (most - 1).toNat) + 1].getD (kind - 1).toNat 0) : Int) * 2 ≤ 2 ^ 27
theorem ten40 : (10 : Int) ^ Int.toNat 40 = 10000000000000000000000000000000000000000 := by decide +kernel
theorem b_all (a : Int) : BAll (a.fmod (10 ^ Int.toNat 40)) := by
  have h0 := Int.fmod_nonneg_of_pos a (b := 10 ^ Int.toNat 40) (by rw [ten40]; decide)
  have h1 := Int.fmod_lt_of_pos a (b := 10 ^ Int.toNat 40) (by rw [ten40]; decide)
  generalize a.fmod (10 ^ Int.toNat 40) = big at *
  rw [ten40] at h1
  have hb : intBits big ≤ 140 := intBits_le (by
    have : (2 : Nat) ^ 140 = 1393796574908163946345982392040522594123776 := by decide +kernel
    omega)
  have ⟨q0, q1, q2⟩ := isq_bounds h0
  have qb := bits_isq h0 hb
  have qq := bits_mul qb qb
  exact ⟨h0, by omega, Int.mul_nonneg q0 q0, by omega, mulOk_of_bits qb qb (by decide), by omega, by omega, by omega, isq_sq q0⟩
theorem w_all0 {a b c : Int} : WAll (a.fmod 1000000007) (b.fmod 121 - 60) (1 + c.fmod 60) := by
  have h0 := Int.fmod_nonneg_of_pos a (b := 1000000007) (by decide)
  have h1 := Int.fmod_lt_of_pos a (b := 1000000007) (by decide)
  have h2 := Int.fmod_nonneg_of_pos b (b := 121) (by decide)
  have h3 := Int.fmod_lt_of_pos b (b := 121) (by decide)
  have h4 := Int.fmod_nonneg_of_pos c (b := 60) (by decide)
  have h5 := Int.fmod_lt_of_pos c (b := 60) (by decide)
  have hb : intBits (a.fmod 1000000007) ≤ 30 := intBits_le (by omega)
  exact ⟨h0, by omega, by omega, by omega, by omega, by omega, by omega⟩
theorem rawW_bits {drawn kind most : Int} (hm : 1 ≤ most ∧ most ≤ 60) : intBits (rawW drawn kind most) ≤ 62 := by
  have a1 : intBits (drawn.fmod 70000) ≤ 62 := intBits_le (by
    have h2 := Int.fmod_nonneg_of_pos drawn (b := 70000) (by decide)
    have h3 := Int.fmod_lt_of_pos drawn (b := 70000) (by decide)
    omega)
  have a2 : intBits (drawn.fmod 5) ≤ 62 := intBits_le (by
    have h2 := Int.fmod_nonneg_of_pos drawn (b := 5) (by decide)
    have h3 := Int.fmod_lt_of_pos drawn (b := 5) (by decide)
    omega)
  have a3 : intBits (2 ^ most.toNat + 2 * drawn.fmod (2 ^ (most - 1).toNat) + 1) ≤ 62 := by
    have hp := pow2_pos (most - 1).toNat
    have h2 := Int.fmod_nonneg_of_pos drawn hp
    have h3 := Int.fmod_lt_of_pos drawn hp
    have e : (2 : Int) ^ most.toNat = 2 * 2 ^ (most - 1).toNat := by rw [show most.toNat = (most - 1).toNat + 1 by omega, Int.pow_succ]; omega
    have hle : (2 : Int) ^ most.toNat ≤ 2 ^ 60 := pow2_mono (by omega)
    have e60 : (2 : Int) ^ 60 = 1152921504606846976 := by decide
    refine intBits_le ?_
    have e62 : (2 : Nat) ^ 62 = 4611686018427387904 := by decide
    omega
  have a4 : intBits (0 : Int) ≤ 62 := by decide
  unfold rawW
  rcases h : (kind - 1).toNat with _ | _ | _ | k
  · exact a1
  · exact a2
  · exact a3
  · exact a4
theorem k_all {a b c : Int} : KAll (a.fmod 1000000007) (b.fmod 4) (1 + c.fmod 60) := by
  have h0 := Int.fmod_nonneg_of_pos a (b := 1000000007) (by decide)
  have h1 := Int.fmod_lt_of_pos a (b := 1000000007) (by decide)
  have h4 := Int.fmod_nonneg_of_pos c (b := 60) (by decide)
  have h5 := Int.fmod_lt_of_pos c (b := 60) (by decide)
  have t2 : intBits 2 = 2 := by decide
  have hb := rawW_bits (drawn := a.fmod 1000000007) (kind := b.fmod 4) (most := 1 + c.fmod 60) ⟨by omega, by omega⟩
  dsimp only [rawW] at hb
  exact ⟨by omega, by omega, by rw [t2]; omega, by rw [t2]; omega, by omega⟩
theorem w_all1 {a b c d : Int} : WAll ([(a.fmod 1000000007).fmod 70000, (a.fmod 1000000007).fmod 5, 2 ^ (1 + c.fmod 60).toNat + 2 * (a.fmod 1000000007).fmod (2 ^ (1 + c.fmod 60 - 1).toNat) + 1].getD (d.fmod 4 - 1).toNat 0 ^ Int.toNat 2) (b.fmod 121 - 60 - (b.fmod 121 - 60).fmod 2) (1 + c.fmod 60) := by
  have h0 := Int.fmod_nonneg_of_pos a (b := 1000000007) (by decide)
  have h1 := Int.fmod_lt_of_pos a (b := 1000000007) (by decide)
  have h2 := Int.fmod_nonneg_of_pos b (b := 121) (by decide)
  have h3 := Int.fmod_lt_of_pos b (b := 121) (by decide)
  have h4 := Int.fmod_nonneg_of_pos c (b := 60) (by decide)
  have h5 := Int.fmod_lt_of_pos c (b := 60) (by decide)
  have h6 := Int.fmod_nonneg_of_pos (b.fmod 121 - 60) (b := 2) (by decide)
  have h7 := Int.fmod_lt_of_pos (b.fmod 121 - 60) (b := 2) (by decide)
  have hb := rawW_bits (drawn := a.fmod 1000000007) (kind := d.fmod 4) (most := 1 + c.fmod 60) ⟨by omega, by omega⟩
  dsimp only [rawW] at hb
  have hbb := bits_mul hb hb
  rw [pow_two']
  exact ⟨sq_nonneg _, by omega, by omega, by omega, by omega, by omega, by omega⟩
section
variable {a b c d : Int}
theorem f_w0 : 0 ≤ a.fmod 1000000007 := (w_all0 (b := 0) (c := 0)).w0
theorem f_wb : intBits (a.fmod 1000000007) ≤ 400 := (w_all0 (b := 0) (c := 0)).wb
theorem f_wb2 : intBits (a.fmod 1000000007) ≤ 1000 := (w_all0 (b := 0) (c := 0)).wb2
theorem f_v0 : 0 ≤ [(a.fmod 1000000007).fmod 70000, (a.fmod 1000000007).fmod 5, 2 ^ (1 + c.fmod 60).toNat + 2 * (a.fmod 1000000007).fmod (2 ^ (1 + c.fmod 60 - 1).toNat) + 1].getD (d.fmod 4 - 1).toNat 0 ^ Int.toNat 2 := (w_all1 (b := 0)).w0
theorem f_vb : intBits ([(a.fmod 1000000007).fmod 70000, (a.fmod 1000000007).fmod 5, 2 ^ (1 + c.fmod 60).toNat + 2 * (a.fmod 1000000007).fmod (2 ^ (1 + c.fmod 60 - 1).toNat) + 1].getD (d.fmod 4 - 1).toNat 0 ^ Int.toNat 2) ≤ 400 := (w_all1 (b := 0)).wb
theorem f_vb2 : intBits ([(a.fmod 1000000007).fmod 70000, (a.fmod 1000000007).fmod 5, 2 ^ (1 + c.fmod 60).toNat + 2 * (a.fmod 1000000007).fmod (2 ^ (1 + c.fmod 60 - 1).toNat) + 1].getD (d.fmod 4 - 1).toNat 0 ^ Int.toNat 2) ≤ 1000 := (w_all1 (b := 0)).wb2
theorem f_p : -300 ≤ b.fmod 121 - 60 ∧ b.fmod 121 - 60 ≤ 300 := (w_all0 (a := 0) (c := 0)).p
theorem f_q : -300 ≤ b.fmod 121 - 60 - (b.fmod 121 - 60).fmod 2 ∧ b.fmod 121 - 60 - (b.fmod 121 - 60).fmod 2 ≤ 300 := (w_all1 (a := 0) (c := 0) (d := 0)).p
theorem f_m1 : 1 ≤ 1 + c.fmod 60 ∧ 1 + c.fmod 60 ≤ 100 := (w_all0 (a := 0) (b := 0)).m1
theorem f_m2 : 1 ≤ 1 + c.fmod 60 := (w_all0 (a := 0) (b := 0)).m2
theorem f_m3 : 1 + c.fmod 60 ≤ 1000 := (w_all0 (a := 0) (b := 0)).m3
theorem f_m4 : 0 ≤ 1 + c.fmod 60 := (k_all (a := 0) (b := 0)).m0
theorem f_m5 : 0 ≤ 1 + c.fmod 60 - 1 := (k_all (a := 0) (b := 0)).m00
theorem f_k1 : (intBits 2 : Int) * (1 + c.fmod 60) ≤ 2 ^ 27 := (k_all (a := 0) (b := 0)).k1
theorem f_k2 : (intBits 2 : Int) * (1 + c.fmod 60 - 1) ≤ 2 ^ 27 := (k_all (a := 0) (b := 0)).k2
theorem f_k3 : (intBits ([(a.fmod 1000000007).fmod 70000, (a.fmod 1000000007).fmod 5, 2 ^ (1 + c.fmod 60).toNat + 2 * (a.fmod 1000000007).fmod (2 ^ (1 + c.fmod 60 - 1).toNat) + 1].getD (b.fmod 4 - 1).toNat 0) : Int) * 2 ≤ 2 ^ 27 := k_all.k3
end
/-- the law's own comparison -/
theorem law_eq (wy : Way) (whole power most : Int) : ¬ ((0 : Int) = 0 ∧ (lrz wy whole power most).1 = (lrz wy whole power most).1 ∧ (lrz wy whole power most).2.1 = (lrz wy whole power most).2.1 ∧ (lrz wy whole power most).2.2 = (lrz wy whole power most).2.2) → False := fun h => h ⟨rfl, rfl, rfl, rfl⟩
end Mine

namespace Mine
open PySem.Builtin.Int (intBits)
theorem way_item (a : Int) : ∃ wy : Way, PySem.Txt.item (Str.ofString "nfcud") (a.fmod 5) = wy.str := by
  have h0 := Int.fmod_nonneg_of_pos a (b := 5) (by decide)
  have h1 := Int.fmod_lt_of_pos a (b := 5) (by decide)
  generalize a.fmod 5 = k at *
  rcases (show k = 0 ∨ k = 1 ∨ k = 2 ∨ k = 3 ∨ k = 4 by omega) with rfl | rfl | rfl | rfl | rfl
  · exact ⟨.n, by rw [Way.str_n]; decide +kernel⟩
  · exact ⟨.f, by rw [Way.str_f]; decide +kernel⟩
  · exact ⟨.c, by rw [Way.str_c]; decide +kernel⟩
  · exact ⟨.u, by rw [Way.str_u]; decide +kernel⟩
  · exact ⟨.d, by rw [Way.str_d]; decide +kernel⟩
theorem pick_way {prog : Program} {w : World} {A : Around} {E : Value → Shared → Prop} {s : Shared} {value slice : PySem.Expr} {a : Int} {t u : Tok} {Q : Value → Shared → Prop} (h : ∀ wy : Way, Q (.str wy.str s.toks) { s with toks := s.toks + 1 })
    (hs : subscripted slice false (.str (Str.ofString "nfcud") t) (.int (a.fmod 5) u) = operate [.str (Str.ofString "nfcud") t, .int (a.fmod 5) u] (getItem (.str (Str.ofString "nfcud") t) (.int (a.fmod 5) u)) := by with_unfolding_all rfl)
    (ht : ∀ r, letTemporaryGo value (.str (Str.ofString "nfcud") t) r = pure () := by intro _; with_unfolding_all rfl) :
    wpAny (model prog w) A (subscriptTail value slice (.str (Str.ofString "nfcud") t) (.int (a.fmod 5) u)) Q E s := by
  obtain ⟨wy, e⟩ := way_item a
  exact item_str_fmod (by decide) (by decide) (by decide) (fun _ => by rw [e]; exact h wy) hs ht
end Mine

namespace Mine
open PySem PyProof.Rows PySem.W
/-- an exception on its way out: its class, no context, and the flight word of its traceback's head (if it has one) -/
def FlyX (B : Heap) (l : List Env) (e : Addr) (cls fl : Value) (h : Heap) : Prop :=
  B.StaysIn h ∧ B.get? e = none ∧ h.FunFrames B l ∧ ∃ oe vs T oT ts, h.get? e = some oe ∧ oe.cls = cls ∧ oe.data = .fields vs ∧ vs[1]? = some (.ref T) ∧ vs[2]? = some Value.none ∧ B.get? T = none ∧ T ≠ e ∧ h.get? T = some oT ∧ oT.data = .fields ts ∧ ts[3]? = some fl
section
variable {M : Model} {A : Around} {E : Value → Shared → Prop} {s : Shared} {B : Heap} {env : Env} {outer : List Env} {L e : Addr} {cls : Value} {Q : Unit → Shared → Prop}
/-- a new head of the traceback -/
theorem entry_fly {oe : Obj} {vs : Array Value} {head : Value} {hadNext : Bool} (hfr : A.frames = some (env :: outer)) (hf : env.frame = some L) (hB : B.StaysIn s.heap) (hen : B.get? e = none) (hl : s.heap.FunFrames B (env :: outer))
    (he : s.heap.get? e = some oe) (hc : oe.cls = cls) (hd : oe.data = .fields vs) (h2 : vs[2]? = some Value.none)
    (hQ : ∀ h', FlyX B (env :: outer) e cls (rawInt L) h' → s.heap.UpToSlots h' → Q () { s with heap := h' }) :
    wpAny M A (do let a ← frameOf env; let pl ← entryPlaceOf L hadNext; let b ← EntryCells.newEntry head a .none (rawInt L) .none pl; setField (.ref e) 1 b) Q E s := by
  have hsz : 2 < vs.size := (Array.getElem?_eq_some_iff.mp h2).1
  refine wpAny_bind (wpAny_frameOf_fun hfr hl hf fun h₁ hs => ?_)
  refine wpAny_bind (wpAny_entryPlaceOf fun pl hpl => ?_)
  unfold EntryCells.newEntry newFields
  refine wpAny_bind (wpAny_newObj_type ?_ (hpl.sizeOk5 _ _ _ _ _))
  -- what stays: all but the frames' slots
  have hnotf : ∀ b o ws, s.heap.get? b = some o → o.data = .fields ws → b ∉ (env :: outer).filterMap (·.frame) := fun b o ws hb hw hm => by
    obtain ⟨_, o', ho', hn⟩ := hl.mem hm
    rw [hb] at ho'; cases ho'; exact hn ws hw
  have he₁ : h₁.get? e = some oe := (hs.2.1 e (hnotf e oe vs he hd)).trans he
  have hB₁ : B.StaysIn h₁ := fun b o hb => (hs.2.1 b fun hm => by rw [(hl.mem hm).1] at hb; cases hb).trans (hB b o hb)
  have hTe : h₁.objs.size ≠ e := Nat.ne_of_gt (Heap.lt_size he₁)
  have he₂ := Heap.get?_push_of_some (h := h₁) { cls := .type "traceback", dict := none, data := .fields ([head, .ref L, .none, rawInt L, .none] ++ (if pl.isEmpty then List.replicate 6 Value.none else pl)).toArray } he₁
  refine wpAny_setField he₂ hd (by omega) (hQ _ ?_ ?_)
  · have keep : ∀ b o, b ≠ e → h₁.get? b = some o → ((h₁.push { cls := .type "traceback", dict := none, data := .fields ([head, .ref L, .none, rawInt L, .none] ++ (if pl.isEmpty then List.replicate 6 Value.none else pl)).toArray }).update e (Obj.mapFields (·.setIfInBounds 1 (Value.ref h₁.objs.size)))).get? b = some o := fun b o hbe hb => by
      rw [Heap.get?_update_other _ _ (Ne.symm hbe)]; exact Heap.get?_push_of_some _ hb
    have hd₃ := Obj.data_mapFields hd (·.setIfInBounds 1 (Value.ref h₁.objs.size))
    refine ⟨fun b o hb => keep b o (fun q => by rw [q, hen] at hb; cases hb) (hB₁ b o hb), hen, hl.of_keeps fun b o hb hn => ?_, _, _, h₁.objs.size, _, _, Heap.get?_update_self _ he₂ (Obj.isFreed_of_fields hd₃), (Obj.cls_mapFields _ _).trans hc, hd₃, ?_, ?_, hB₁.fresh, hTe, (Heap.get?_update_other _ _ (Ne.symm hTe)).trans (Heap.get?_push_size h₁ rfl), rfl, ?_⟩
    · obtain ⟨sl, hs'⟩ := hs.2.2 b o hb
      exact ⟨_, keep b _ (fun q => by rw [q, he] at hb; cases hb; exact hn vs hd) hs', rfl⟩
    · simp [show 1 < vs.size by omega]
    · rw [Array.getElem?_setIfInBounds_ne (by decide)]; exact h2
    · first | (simp; done) | (rcases hpl with rfl | ⟨_, _, _, _, _, _, _, rfl⟩ <;> simp)
  · intro b o hb hn
    obtain ⟨sl, hs'⟩ := hs.2.2 b o hb
    refine ⟨sl, ?_⟩
    rw [Heap.get?_update_other _ _ (Ne.symm fun q => by rw [q, he] at hb; cases hb; exact hn vs hd)]
    exact Heap.get?_push_of_some _ hs'
/-- the flight word is laid down -/
theorem flight_fly {l : List Env} {fl : Value} (x : FlyX B l e cls fl s.heap) (hQ : ∀ h', FlyX B l e cls Value.none h' → s.heap.UpToSlots h' → Q () { s with heap := h' }) : wpAny M A (setFlight (.ref e) none) Q E s := by
  obtain ⟨hB, hen, hl, oe, vs, T, oT, ts, he, hc, hd, h1, h2, hnT, hTe, hT, hdT, h3⟩ := x
  have hsz3 : 3 < ts.size := (Array.getElem?_eq_some_iff.mp h3).1
  unfold setFlight
  refine wpAny_bind (wpAny_field he hd h1 ?_)
  rw [if_pos (show (Value.ref T != Value.none) = true from by simp)]
  have other : ∀ b, b ≠ T → (s.heap.update T (Obj.mapFields (·.setIfInBounds 3 ((none : Option Addr).elim Value.none fun f => rawInt f)))).get? b = s.heap.get? b := fun b hb => Heap.get?_update_other _ _ (Ne.symm hb)
  have nT : ∀ b o, s.heap.get? b = some o → (∀ vs, o.data ≠ .fields vs) → b ≠ T := fun b o hb hn q => by
    rw [q, hT] at hb; cases hb; exact hn ts hdT
  refine wpAny_setField hT hdT hsz3 (hQ _ ⟨fun b o hb => (other b fun q => by rw [q, hnT] at hb; cases hb).trans (hB b o hb), hen, hl.of_keeps fun b o hb hn => ⟨o, (other b (nT b o hb hn)).trans hb, rfl⟩, ?_⟩ fun b o hb hn => ⟨o.slots, (other b (nT b o hb hn)).trans hb⟩)
  exact ⟨oe, vs, T, _, _, (other e (Ne.symm hTe)).trans he, hc, hd, h1, h2, hnT, hTe, Heap.get?_update_self _ hT (Obj.isFreed_of_fields (Obj.data_mapFields hdT _)), Obj.data_mapFields hdT _, by simp [hsz3]⟩
/-- a frame is noted -/
theorem note_fly (hfr : A.frames = some (env :: outer)) (hf : env.frame = some L) (x : FlyX B (env :: outer) e cls Value.none s.heap)
    (hQ : ∀ h', FlyX B (env :: outer) e cls (rawInt L) h' → s.heap.UpToSlots h' → Q () { s with heap := h' }) : wpAny M A (noteFrame (.ref e) env) Q E s := by
  obtain ⟨hB, hen, hl, oe, vs, T, oT, ts, he, hc, hd, h1, h2, hnT, hTe, hT, hdT, h3⟩ := x
  unfold noteFrame
  simp only [hf]
  refine wpAny_bind (wpAny_field he hd h1 ?_)
  rw [if_pos (show (Value.ref T != Value.none) = true from by simp)]
  refine wpAny_bind (wpAny_field hT hdT h3 ?_)
  rw [if_neg (show ¬ ((Value.none == rawInt L) = true) from by simp [rawInt])]
  have other : ∀ b, b ≠ T → (s.heap.update T (Obj.mapFields (·.setIfInBounds 3 Value.none))).get? b = s.heap.get? b := fun b hb => Heap.get?_update_other _ _ (Ne.symm hb)
  have nT : ∀ b o, s.heap.get? b = some o → (∀ vs, o.data ≠ .fields vs) → b ≠ T := fun b o hb hn q => by
    rw [q, hT] at hb; cases hb; exact hn ts hdT
  refine wpAny_bind (wpAny_setField hT hdT (Array.getElem?_eq_some_iff.mp h3).1 ?_)
  exact entry_fly hfr hf (fun b o hb => (other b fun q => by rw [q, hnT] at hb; cases hb).trans (hB b o hb)) hen (hl.of_keeps fun b o hb hn => ⟨o, (other b (nT b o hb hn)).trans hb, rfl⟩) ((other e (Ne.symm hTe)).trans he) hc hd h2
    fun h' hx hu => hQ h' hx (Heap.UpToSlots.trans (fun b o hb hn => ⟨o.slots, (other b (nT b o hb hn)).trans hb⟩) hu)
/-- the first frame that it leaves -/
theorem leave_first {oe : Obj} {vs : Array Value} (hfr : A.frames = some (env :: outer)) (hf : env.frame = some L) (hB : B.StaysIn s.heap) (hen : B.get? e = none) (hl : s.heap.FunFrames B (env :: outer))
    (he : s.heap.get? e = some oe) (hc : oe.cls = cls) (hd : oe.data = .fields vs) (h1 : vs[1]? = some Value.none) (h2 : vs[2]? = some Value.none)
    (hQ : ∀ h', FlyX B outer e cls Value.none h' → s.heap.UpToSlots h' → Q () { s with heap := h' }) : wpAny M A (leaving env (.ref e)) Q E s := by
  unfold leaving noteFrame
  simp only [hf]
  refine wpAny_bind (wpAny_bind (wpAny_field he hd h1 ?_))
  rw [if_neg (by decide)]
  refine entry_fly hfr hf hB hen hl he hc hd h2 fun h' hx hu => ?_
  refine flight_fly hx fun h₂ hx₂ hu₂ => hQ h₂ ⟨hx₂.1, hx₂.2.1, hx₂.2.2.1.2.2, hx₂.2.2.2⟩ (hu.trans hu₂)
end
end Mine
namespace Mine
open PySem PyProof.Rows PySem.W
def RaisedX (base : Heap) (l : List Env) (e : Addr) (cls : Value) (news : List (Addr × Obj)) (h : Heap) : Prop :=
  ∃ B, base.StaysIn B ∧ (∀ q ∈ news, B.get? q.1 = some q.2 ∧ base.get? q.1 = none) ∧ FlyX B l e cls Value.none h
theorem stays_none {base B : Heap} (k : base.StaysIn B) {b : Addr} (e : B.get? b = none) : base.get? b = none := by
  cases q : base.get? b with
  | none => rfl
  | some o => rw [k b o q] at e; cases e
section
variable {M : Model} {A : Around} {E : Value → Shared → Prop} {s' : Shared} {base g h : Heap} {outer : List Env} {L a e : Addr} {m : Str → Option Value} {name : Str} {scope : Scope} {cd : Value} {Q : Unit → Shared → Prop} {news : List (Addr × Obj)}
theorem leave_raiseX {cls : Value} {vs : List Value} (K : Below A base outer g) (hx : Heap.MadeExcOf h s'.heap e cls vs) (F : Fr g L h m) (N : News g L h news)
    (hQ : ∀ h', RaisedX base outer e cls news h' → g.UpToSlots h' → Q () { s' with heap := h' }) (hk : scope.kind = .function := by rfl) :
    wpAny M (A.deeper (envOf name scope L a cd)) (leaving (envOf name scope L a cd) (.ref e)) Q E s' := by
  have K' := K.push (name := name) (a := a) (cd := cd) F hk
  obtain ⟨t, he, htn, ht⟩ := hx.there
  have hB : (hideAll h ((envOf name scope L a cd :: outer).filterMap (·.frame))).StaysIn s'.heap := fun b o q => hx.keeps b o (of_hideAll _ q)
  have hen : (hideAll h ((envOf name scope L a cd :: outer).filterMap (·.frame))).get? e = none := by
    cases q : (hideAll h ((envOf name scope L a cd :: outer).filterMap (·.frame))).get? e with
    | none => rfl
    | some o => have := of_hideAll _ q; rw [hx.new] at this; cases this
  have hin : ∀ env ∈ (envOf name scope L a cd :: outer), ∀ b, env.frame = some b → b ∈ (envOf name scope L a cd :: outer).filterMap (·.frame) := fun env he b hb => List.mem_filterMap.mpr ⟨env, he, hb⟩
  have hl : s'.heap.FunFrames (hideAll h ((envOf name scope L a cd :: outer).filterMap (·.frame))) (envOf name scope L a cd :: outer) :=
    (funFrames_hide K'.frames hin).of_keeps fun b o hb _ => ⟨o, hx.keeps b o hb, rfl⟩
  refine leave_first K'.stack rfl hB hen hl he rfl rfl rfl rfl fun h' hf hu => hQ h' ⟨_, fun b o q => ?_, fun q hq => ?_, hf⟩ ((Heap.UpToSlots.of_keeps F.keep).trans ((Heap.UpToSlots.of_keeps hx.keeps).trans hu))
  · refine hideAll_get _ (K'.stays b o q) fun hm => ?_
    rw [(K'.frames.mem hm).1] at q; cases q
  · refine ⟨hideAll_get _ (N q hq).1 fun hm => ?_, stays_none K.stays (N q hq).2.2⟩
    obtain ⟨env, hv, hf'⟩ := List.mem_filterMap.mp hm
    rcases List.mem_cons.mp hv with rfl | hv
    · exact (N q hq).2.1 (Option.some.inj hf').symm
    · obtain ⟨o, ho, _⟩ := (K.frames.mem (List.mem_filterMap.mpr ⟨env, hv, hf'⟩)).2
      rw [(N q hq).2.2] at ho; cases ho
end
section
variable {prog : Program} {w : World} {A₀ : Around} {E : Value → Shared → Prop} {s' : Shared} {h₀ h : Heap} {outer : List Env} {L a e : Addr} {m : Str → Option Value} {name : Str} {scope : Scope} {cd : Value}
  {b₀ : Stmt} {suite : List Stmt} {pos np : Pos} {rest : List ExceptHandler} {Q : Flow → Shared → Prop} {news : List (Addr × Obj)} {KF : Frag} {C : Addr} {bmB : List Value} {newId : String}
  {p : Program} {loose : List Str} {mg mb : Str → Option Value} {x : Str}
theorem caughtX (K : Below A₀ h₀ outer h₀) (F : Fr h₀ L h m) (hsm : h.UpToSlots s'.heap) (R : RaisedX h₀ (envOf name scope L a cd :: outer) e (.ref C) news s'.heap)
    (X : KF.In h₀) (T : TopRead p loose mg mb h₀) (ex : nsIn KF mainGlobals x = some (some (.ref C))) (q : excIn KF C bmB newId = true) (hbase : bmB.contains (.type "BaseException") = true)
    (k : ∀ h' o vs, o.data = .fields vs → vs[2]? = some Value.none → Fr h₀ L h' m → News h₀ L h' ((e, o) :: news) →
      wpAny (model prog w) ((A₀.deeper (envOf name scope L a cd)).mark (some (.ref e))) (execs (b₀ :: suite) (envOf name scope L a cd)) Q E { s' with heap := h' })
    (hk : scope.kind = .function := by rfl) (hx : (envOf name scope L a cd).kindOf x = some .globalImplicit := by rfl) (hd : (x == ("__debug__" : Str)) = false := by decide)
    (hE : PassesOwnAt (model prog w) ((A₀.deeper (envOf name scope L a cd)).mark (some (.ref e))) (A₀.deeper (envOf name scope L a cd)) (envOf name scope L a cd) E := by passes_own) :
    wpAny (model prog w) (A₀.deeper (envOf name scope L a cd)) (noteFrame (.ref e) (envOf name scope L a cd))
      (fun _ s₂ => wpAny (model prog w) (A₀.deeper (envOf name scope L a cd)) (setFlight (.ref e) none) (fun _ s₃ =>
        wpAny (model prog w) (A₀.deeper (envOf name scope L a cd)) (handleBy (.ref e) (envOf name scope L a cd) (.ExceptHandler (some (.Name x np)) none (b₀ :: suite) pos :: rest)) Q E s₃) E s₂) E s' := by
  obtain ⟨B, hB, hl, hfl⟩ := R
  have hfr := Around.frames_deeper (env := envOf name scope L a cd) K.stack
  refine note_fly hfr rfl hfl fun h₁ x₁ u₁ => ?_
  refine flight_fly x₁ fun h₂ x₂ u₂ => ?_
  have U₂ := hsm.trans (u₁.trans u₂)
  have stay : ∀ h', FlyX B (envOf name scope L a cd :: outer) e (.ref C) Value.none h' → h₀.StaysIn h' := fun h' y b o qb => y.1 b o (hB b o qb)
  have F₂ := F.of_stays (stay _ x₂) U₂
  obtain ⟨ob, _, _, _, _, hob, hobc, _⟩ := x₂.2.2.2
  refine wpAny_handleBy_cons (codeAny_handlers_test (name_K F₂ X T ex ?_ hk hx hd)) (by intro q; cases q)
  obtain ⟨bm, N, nm, qn, bs, hdct, sn, sub, ab, col, dd, k0, k1, k2, k3, k5, mN, hC, hN, hni, TL⟩ := ((own_of_in X T ex q).keeps F₂.keep).obj
  refine wpAny_excMatches_sub_self hC hob hobc (TL.hasType hbase) (codeAny_handlers_suite ?_)
  refine flight_fly x₂ fun h₃ x₃ u₃ => ?_
  have F₃ := F.of_stays (stay _ x₃) (U₂.trans u₃)
  obtain ⟨oe, vs, _, _, _, hoe, hoc, hod, _, h2, _⟩ := x₃.2.2.2
  refine wpAny_passesOwnAt hE (k h₃ oe vs hod h2 F₃ fun r hr => ?_)
  have hL : B.get? L = none := by
    obtain ⟨_, ⟨L', _, hf, hn', _⟩, _⟩ := hfl.2.2.1
    obtain rfl : L = L' := Option.some.inj hf
    exact hn'
  rcases List.mem_cons.mp hr with rfl | hr
  · obtain ⟨oL, es, ep, hoL, hdL, _⟩ := F₃.ns
    exact ⟨hoe, fun z => (by rw [← z, hoe] at hoL; cases hoL; rw [hod] at hdL; cases hdL), stays_none hB x₃.2.1⟩
  · exact ⟨x₃.1 _ _ (hl r hr).1, (fun z => by have := (hl r hr).1; rw [z, hL] at this; cases this), (hl r hr).2⟩
end
end Mine

section
local macro_rules | `(tactic| walk_at "none 0") => `(tactic| fail)
local macro_rules | `(tactic| walk_at "none 1") => `(tactic| fail)
local macro_rules | `(tactic| walk_at "none 2") => `(tactic| fail)
local macro_rules | `(tactic| walk_at "none 3") => `(tactic| fail)
local macro_rules | `(tactic| walk_at "none 4") => `(tactic| fail)
local macro_rules | `(tactic| walk_at "none 5") => `(tactic| fail)
local macro_rules | `(tactic| walk_at "none 6") => `(tactic| fail)
local macro_rules | `(tactic| walk_at "none 7") => `(tactic| fail)
local macro_rules | `(tactic| walk_at "none 8") => `(tactic| fail)
local macro_rules | `(tactic| walk_at "none 9") => `(tactic| fail)
local macro_rules | `(tactic| walk_at "none 10") => `(tactic| fail)
local macro_rules | `(tactic| walk_at "none 11") => `(tactic| fail)
local macro_rules | `(tactic| walk_at "none 12") => `(tactic| fail)
local macro_rules | `(tactic| walk_at "none 13") => `(tactic| fail)
local macro_rules | `(tactic| walk_at "none 14") => `(tactic| fail)
local macro_rules | `(tactic| walk_at "none 15") => `(tactic| fail)
local macro_rules | `(tactic| walk_at "none 16") => `(tactic| fail)
local macro_rules | `(tactic| walk_at "binaryOp LShift int int") => `(tactic| (refine PyProof.Rows.lshift_int ?_ ?_ ?_; rotate_left 2))
local macro_rules | `(tactic| walk_at "binaryOp FloorDiv int int") => `(tactic| (refine PyProof.Rows.floordiv_int (Mine.ninv_pos (by assumption)) ?_ (Or.inl (PyProof.noPylong_of_log2 (Mine.ninv_log (by assumption))))))
local macro_rules | `(tactic| walk_at "binaryOp Mult int int") => `(tactic| (refine PyProof.Rows.mul_int ?_ ?_; (try dsimp only)))
local macro_rules | `(tactic| walk_at "binaryOp Pow int int") => `(tactic| (refine PyProof.Rows.pow_int ?_ ?_ ?_; rotate_left 2; (try dsimp only)))
local macro_rules | `(tactic| walk_at "execs cons") => `(tactic| (with_reducible (refine Mine.gen_toks ?_; intro tk; refine wpAny_execs_cons ?_); (try dsimp only)))
local macro_rules | `(tactic| walk_at "execs nil") => `(tactic| (with_reducible (refine Mine.gen_toks ?_; intro tk; refine wpAny_execs_nil ?_); (try dsimp only)))
local macro_rules | `(tactic| walk_at "unpackItems ref") => `(tactic| (k_here; k_dflt (refine' Mine.unpack_calm ?kA ?kC ?k1 ?k2 ?k3 ?k5 ?_; (case kA => exact rfl); (case k1 => k_asm); (case k2 => k_asm); (case kC => first | exact Mine.CalmN.at (by assumption) (by k_asm) (by first | exact fun _ h => h | exact fun _ h => .tail _ h | exact fun _ h => .tail _ (.tail _ h) | exact fun _ h => .tail _ (.tail _ (.tail _ h)) | exact fun _ h => .tail _ (.tail _ (.tail _ (.tail _ h))) | exact fun _ h => .tail _ (.tail _ (.tail _ (.tail _ (.tail _ h)))) | exact fun _ h => .tail _ (.tail _ (.tail _ (.tail _ (.tail _ (.tail _ h))))) | exact fun _ h => .tail _ (.tail _ (.tail _ (.tail _ (.tail _ (.tail _ (.tail _ h)))))) | exact fun _ h => .tail _ (.tail _ (.tail _ (.tail _ (.tail _ (.tail _ (.tail _ (.tail _ h))))))) | exact fun _ h => .tail _ (.tail _ (.tail _ (.tail _ (.tail _ (.tail _ (.tail _ (.tail _ (.tail _ h)))))))) | exact fun _ h => .tail _ (.tail _ (.tail _ (.tail _ (.tail _ (.tail _ (.tail _ (.tail _ (.tail _ (.tail _ h))))))))) | exact fun _ h => .tail _ (.tail _ (.tail _ (.tail _ (.tail _ (.tail _ (.tail _ (.tail _ (.tail _ (.tail _ (.tail _ h)))))))))) | exact fun _ h => .tail _ (.tail _ (.tail _ (.tail _ (.tail _ (.tail _ (.tail _ (.tail _ (.tail _ (.tail _ (.tail _ (.tail _ h))))))))))) | exact fun _ h => .tail _ (.tail _ (.tail _ (.tail _ (.tail _ (.tail _ (.tail _ (.tail _ (.tail _ (.tail _ (.tail _ (.tail _ (.tail _ h)))))))))))) | exact fun _ h => .tail _ (.tail _ (.tail _ (.tail _ (.tail _ (.tail _ (.tail _ (.tail _ (.tail _ (.tail _ (.tail _ (.tail _ (.tail _ (.tail _ h))))))))))))) | exact fun _ h => .tail _ (.tail _ (.tail _ (.tail _ (.tail _ (.tail _ (.tail _ (.tail _ (.tail _ (.tail _ (.tail _ (.tail _ (.tail _ (.tail _ (.tail _ h))))))))))))))) | exact Or.inl rfl); (case k3 => kun_tup); (case k5 => exact rfl); k_whole); intro h' F' N'; (try k_sweep)))
local macro_rules | `(tactic| walk_at "assign Tuple") => `(tactic| (k_here; (with_reducible show wpAny _ _ (assign (Expr.Tuple _ _ _) _ (Value.ref _)) _ _ _); k_dflt (refine' Mine.assign_calm ?kA ?kC ?k1 ?k2 ?k3 ?k5 ?k6 ?_; (case kA => exact rfl); (case k1 => k_asm); (case k2 => k_asm); (case kC => first | exact Mine.CalmN.at (by assumption) (by k_asm) (by first | exact fun _ h => h | exact fun _ h => .tail _ h | exact fun _ h => .tail _ (.tail _ h) | exact fun _ h => .tail _ (.tail _ (.tail _ h)) | exact fun _ h => .tail _ (.tail _ (.tail _ (.tail _ h))) | exact fun _ h => .tail _ (.tail _ (.tail _ (.tail _ (.tail _ h)))) | exact fun _ h => .tail _ (.tail _ (.tail _ (.tail _ (.tail _ (.tail _ h))))) | exact fun _ h => .tail _ (.tail _ (.tail _ (.tail _ (.tail _ (.tail _ (.tail _ h)))))) | exact fun _ h => .tail _ (.tail _ (.tail _ (.tail _ (.tail _ (.tail _ (.tail _ (.tail _ h))))))) | exact fun _ h => .tail _ (.tail _ (.tail _ (.tail _ (.tail _ (.tail _ (.tail _ (.tail _ (.tail _ h)))))))) | exact fun _ h => .tail _ (.tail _ (.tail _ (.tail _ (.tail _ (.tail _ (.tail _ (.tail _ (.tail _ (.tail _ h))))))))) | exact fun _ h => .tail _ (.tail _ (.tail _ (.tail _ (.tail _ (.tail _ (.tail _ (.tail _ (.tail _ (.tail _ (.tail _ h)))))))))) | exact fun _ h => .tail _ (.tail _ (.tail _ (.tail _ (.tail _ (.tail _ (.tail _ (.tail _ (.tail _ (.tail _ (.tail _ (.tail _ h))))))))))) | exact fun _ h => .tail _ (.tail _ (.tail _ (.tail _ (.tail _ (.tail _ (.tail _ (.tail _ (.tail _ (.tail _ (.tail _ (.tail _ (.tail _ h)))))))))))) | exact fun _ h => .tail _ (.tail _ (.tail _ (.tail _ (.tail _ (.tail _ (.tail _ (.tail _ (.tail _ (.tail _ (.tail _ (.tail _ (.tail _ (.tail _ h))))))))))))) | exact fun _ h => .tail _ (.tail _ (.tail _ (.tail _ (.tail _ (.tail _ (.tail _ (.tail _ (.tail _ (.tail _ (.tail _ (.tail _ (.tail _ (.tail _ (.tail _ h))))))))))))))) | exact Or.inl rfl); (case k3 => kun_tup); (case k5 => exact rfl); (case k6 => exact rfl); k_whole); intro h' F' N'; (try k_sweep)))
local macro_rules | `(tactic| walk_at "call builtin:min") => `(tactic| (k_here; (with_reducible show wpAny _ _ (call (Value.builtin _) [Value.int _ _, Value.int _ _]) _ _ _); k_dflt (refine' Mine.min_calm ?kA ?kC ?k1 ?k2 ?_; (case kA => exact rfl); (case k1 => k_asm); (case k2 => k_asm); (case kC => first | exact Mine.CalmN.at (by assumption) (by k_asm) (by first | exact fun _ h => h | exact fun _ h => .tail _ h | exact fun _ h => .tail _ (.tail _ h) | exact fun _ h => .tail _ (.tail _ (.tail _ h)) | exact fun _ h => .tail _ (.tail _ (.tail _ (.tail _ h))) | exact fun _ h => .tail _ (.tail _ (.tail _ (.tail _ (.tail _ h)))) | exact fun _ h => .tail _ (.tail _ (.tail _ (.tail _ (.tail _ (.tail _ h))))) | exact fun _ h => .tail _ (.tail _ (.tail _ (.tail _ (.tail _ (.tail _ (.tail _ h)))))) | exact fun _ h => .tail _ (.tail _ (.tail _ (.tail _ (.tail _ (.tail _ (.tail _ (.tail _ h))))))) | exact fun _ h => .tail _ (.tail _ (.tail _ (.tail _ (.tail _ (.tail _ (.tail _ (.tail _ (.tail _ h)))))))) | exact fun _ h => .tail _ (.tail _ (.tail _ (.tail _ (.tail _ (.tail _ (.tail _ (.tail _ (.tail _ (.tail _ h))))))))) | exact fun _ h => .tail _ (.tail _ (.tail _ (.tail _ (.tail _ (.tail _ (.tail _ (.tail _ (.tail _ (.tail _ (.tail _ h)))))))))) | exact fun _ h => .tail _ (.tail _ (.tail _ (.tail _ (.tail _ (.tail _ (.tail _ (.tail _ (.tail _ (.tail _ (.tail _ (.tail _ h))))))))))) | exact fun _ h => .tail _ (.tail _ (.tail _ (.tail _ (.tail _ (.tail _ (.tail _ (.tail _ (.tail _ (.tail _ (.tail _ (.tail _ (.tail _ h)))))))))))) | exact fun _ h => .tail _ (.tail _ (.tail _ (.tail _ (.tail _ (.tail _ (.tail _ (.tail _ (.tail _ (.tail _ (.tail _ (.tail _ (.tail _ (.tail _ h))))))))))))) | exact fun _ h => .tail _ (.tail _ (.tail _ (.tail _ (.tail _ (.tail _ (.tail _ (.tail _ (.tail _ (.tail _ (.tail _ (.tail _ (.tail _ (.tail _ (.tail _ h))))))))))))))) | exact Or.inl rfl); k_whole); intro h9 tk9 F9 N9; (try dsimp only)))
local macro_rules | `(tactic| walk_at "call builtin:max") => `(tactic| (k_here; (with_reducible show wpAny _ _ (call (Value.builtin _) [Value.int _ _, Value.int _ _]) _ _ _); k_dflt (refine' Mine.max_wc ?kA ?kC ?k1 ?k2 ?_; (case kA => exact rfl); (case k1 => k_asm); (case k2 => k_asm); (case kC => first | exact Mine.CalmN.at (by assumption) (by k_asm) (by first | exact fun _ h => h | exact fun _ h => .tail _ h | exact fun _ h => .tail _ (.tail _ h) | exact fun _ h => .tail _ (.tail _ (.tail _ h)) | exact fun _ h => .tail _ (.tail _ (.tail _ (.tail _ h))) | exact fun _ h => .tail _ (.tail _ (.tail _ (.tail _ (.tail _ h)))) | exact fun _ h => .tail _ (.tail _ (.tail _ (.tail _ (.tail _ (.tail _ h))))) | exact fun _ h => .tail _ (.tail _ (.tail _ (.tail _ (.tail _ (.tail _ (.tail _ h)))))) | exact fun _ h => .tail _ (.tail _ (.tail _ (.tail _ (.tail _ (.tail _ (.tail _ (.tail _ h))))))) | exact fun _ h => .tail _ (.tail _ (.tail _ (.tail _ (.tail _ (.tail _ (.tail _ (.tail _ (.tail _ h)))))))) | exact fun _ h => .tail _ (.tail _ (.tail _ (.tail _ (.tail _ (.tail _ (.tail _ (.tail _ (.tail _ (.tail _ h))))))))) | exact fun _ h => .tail _ (.tail _ (.tail _ (.tail _ (.tail _ (.tail _ (.tail _ (.tail _ (.tail _ (.tail _ (.tail _ h)))))))))) | exact fun _ h => .tail _ (.tail _ (.tail _ (.tail _ (.tail _ (.tail _ (.tail _ (.tail _ (.tail _ (.tail _ (.tail _ (.tail _ h))))))))))) | exact fun _ h => .tail _ (.tail _ (.tail _ (.tail _ (.tail _ (.tail _ (.tail _ (.tail _ (.tail _ (.tail _ (.tail _ (.tail _ (.tail _ h)))))))))))) | exact fun _ h => .tail _ (.tail _ (.tail _ (.tail _ (.tail _ (.tail _ (.tail _ (.tail _ (.tail _ (.tail _ (.tail _ (.tail _ (.tail _ (.tail _ h))))))))))))) | exact fun _ h => .tail _ (.tail _ (.tail _ (.tail _ (.tail _ (.tail _ (.tail _ (.tail _ (.tail _ (.tail _ (.tail _ (.tail _ (.tail _ (.tail _ (.tail _ h))))))))))))))) | exact Or.inl rfl); k_whole); intro v9 h9 tk9 F9 N9; (try dsimp only)))
local macro_rules | `(tactic| walk_at "exec Assert") => `(tactic| (refine Mine.assert_holds ?_))

namespace Mine
open PySem.Builtin.Int (intBits)
/-- a call of the def at `f` raises an exception of this class, and nothing is handled -/
abbrev CtrE (w : World) (f : Addr) (dep : Nat) (news : List (Addr × Obj)) (vs : List Value) (cls : Value) : Prop :=
  ∀ (pp : Program) (loose : List Str) (mean : ExcName → Option Value) (mg mb : Str → Option Value) (dp un : Nat) (gd : Option (List Code)) (cn : Str) (cs : Scope) (a : Addr) (ccd : Value) (cl : List (Str × Addr)) (outer : List Env) (A₀ : Around) (base h₀ : Heap) (L : Addr) (m : Str → Option Value) (s : Shared) (Q E : Value → Shared → Prop),
    Below A₀ base outer h₀ → Fr h₀ L s.heap m → (hd.heap_39 w.params).In h₀ → News h₀ L s.heap news → Top pp loose mean mg mb h₀ → cs.kind = .function →
    dp + dep < recursionLimit → un + 8 * dep < cLine →
    (∀ (e : Addr) (g h' : Heap) (tk' : Nat), Fr h₀ L g m → g.UpToSlots h' → RaisedX base (envX cn cs L a ccd cl :: outer) e cls news h' → E (.ref e) { s with heap := h', toks := tk' }) →
    wpAny (model PySem.Challenge.rw_bw0027_01.row.prog w) (ktrX none dp un gd cn cs L a ccd cl outer) (call (.ref f) vs) Q E s
theorem CtrE.use {w : World} {f : Addr} {dep : Nat} {news : List (Addr × Obj)} {vs : List Value} {cls : Value} (C : CtrE w f dep news vs cls)
    {pp : Program} {loose : List Str} {mean : ExcName → Option Value} {mg mb : Str → Option Value} {dp un : Nat} {gd : Option (List Code)} {cn : Str} {cs : Scope} {a : Addr} {ccd : Value} {cl : List (Str × Addr)} {outer : List Env} {A₀ : Around} {base h₀ : Heap} {L : Addr} {m : Str → Option Value} {s : Shared} {Q E : Value → Shared → Prop}
    (B : Below A₀ base outer h₀) (F : Fr h₀ L s.heap m) (X : (hd.heap_39 w.params).In h₀) (N : News h₀ L s.heap news) (T : Top pp loose mean mg mb h₀) (hk : cs.kind = .function)
    (hd : dp + dep < recursionLimit) (hu : un + 8 * dep < cLine)
    (ret : ∀ (e : Addr) (g h' : Heap) (tk' : Nat), Fr h₀ L g m → g.UpToSlots h' → RaisedX base (envX cn cs L a ccd cl :: outer) e cls news h' → E (.ref e) { s with heap := h', toks := tk' }) :
    wpAny (model PySem.Challenge.rw_bw0027_01.row.prog w) (ktrX none dp un gd cn cs L a ccd cl outer) (call (.ref f) vs) Q E s := C _ _ _ _ _ _ _ _ _ _ _ _ _ _ _ _ _ _ _ _ _ _ B F X N T hk hd hu ret
local macro_rules | `(tactic| walk_at "leaving ref") => `(tactic| (k_here; (refine' Mine.leave_raiseX ?k1 ?k0 ?k2 ?k3 ?_; (case k0 => assumption); (case k1 => assumption); (case k2 => assumption); (case k3 => k_asm); k_whole; intro h' R' U'; (try dsimp only at R' U' ⊢))))
set_option maxRecDepth 100000 in
set_option maxHeartbeats 8000000 in
theorem c_sqrt_neg (w : World) (news : List (Addr × Obj)) (D : Addr) (man exp b prec : Int) (rnd : Str) (t u v x y z : Tok) (hD : (D, o4 1 man exp b t u v x) ∈ news) :
    CtrE w 133 6 news [.ref D, .int prec y, .str rnd z] (.ref 52) := by
  w_top off
  dsimp only [CtrE]
  k_fill
  intro pp loose mean mg mb dp un gd cn cs a ccd cl outer A₀ base h₀ L m s Q E B F X N T hk hdp hu hret
  refine wpAny_call ?_
  k_dflt (refine' code_def ?k1 ?k2 ?k3 ?k4 ?k5 ?kA ?kF ?kK ?k6 ?k7 ?k8 ?k9 ?kB ?_ ?c2 ?c3 ?c4 ?c5; (case kA => exact rfl); (case kF => exact rfl); (case kK => assumption); (case k1 => k_asm); (case k2 => k_asm); (case k3 => k_asm); (case k4 => k_asm); (case k5 => k_asm); (case k6 => k_is); (case k7 => k_is); (case k8 => first | ((try dsimp only [Mine.ktrX]); (try simp only [depth_under_make, depth_under_kw, depth_in1, depth_deeper, depth_caller]); (try dsimp only [Mine.ktrX]); omega) | ((try dsimp only [Mine.ktrX] at *); ktr_room)); (case k9 => first | exact BindsTo.of_eq rfl | exact binds_K (by k_in) rfl (by k_is) rfl rfl rfl); (case c5 => decide); (case kB => exact locs rfl); (case c2 => exact rfl); (case c3 => exact rfl); (case c4 => exact rfl); k_whole; intro g' L' h' FG' F' N' B' X' T'; (try dsimp only); (try k_lift B'); (try k_fold))
  k_with_none
  repeat' (first | (k_unfold; (try dsimp only)) | walk1 | (dsimp only; walk1) | (leave1; try dsimp only) | fail "no step")
  all_goals (rename RaisedX _ _ _ _ _ _ => rX; rename Heap.UpToSlots _ _ => uX; exact hret _ _ _ _ (by assumption) uX rX)
end Mine

end
section
local macro_rules | `(tactic| walk_at "none 0") => `(tactic| fail)
local macro_rules | `(tactic| walk_at "none 1") => `(tactic| fail)
local macro_rules | `(tactic| walk_at "none 2") => `(tactic| fail)
local macro_rules | `(tactic| walk_at "none 3") => `(tactic| fail)
local macro_rules | `(tactic| walk_at "none 4") => `(tactic| fail)
local macro_rules | `(tactic| walk_at "none 5") => `(tactic| fail)
local macro_rules | `(tactic| walk_at "none 6") => `(tactic| fail)
local macro_rules | `(tactic| walk_at "none 7") => `(tactic| fail)
local macro_rules | `(tactic| walk_at "binaryOp LShift int int") => `(tactic| (refine PyProof.Rows.lshift_int ?_ ?_ ?_; rotate_left 2))
local macro_rules | `(tactic| walk_at "binaryOp FloorDiv int int") => `(tactic| (refine PyProof.Rows.floordiv_int (Mine.ninv_pos (by assumption)) ?_ (Or.inl (PyProof.noPylong_of_log2 (Mine.ninv_log (by assumption))))))
local macro_rules | `(tactic| walk_at "binaryOp Mult int int") => `(tactic| (refine PyProof.Rows.mul_int ?_ ?_; (try dsimp only)))
local macro_rules | `(tactic| walk_at "binaryOp Pow int int") => `(tactic| (refine PyProof.Rows.pow_int ?_ ?_ ?_; rotate_left 2; (try dsimp only)))
local macro_rules | `(tactic| walk_at "execs cons") => `(tactic| (with_reducible (refine Mine.gen_toks ?_; intro tk; refine wpAny_execs_cons ?_); (try dsimp only)))
local macro_rules | `(tactic| walk_at "execs nil") => `(tactic| (with_reducible (refine Mine.gen_toks ?_; intro tk; refine wpAny_execs_nil ?_); (try dsimp only)))
local macro_rules | `(tactic| walk_at "unpackItems ref") => `(tactic| (k_here; k_dflt (refine' Mine.unpack_calm ?kA ?kC ?k1 ?k2 ?k3 ?k5 ?_; (case kA => exact rfl); (case k1 => k_asm); (case k2 => k_asm); (case kC => first | exact Mine.CalmN.at (by assumption) (by k_asm) (by first | exact fun _ h => h | exact fun _ h => .tail _ h | exact fun _ h => .tail _ (.tail _ h) | exact fun _ h => .tail _ (.tail _ (.tail _ h)) | exact fun _ h => .tail _ (.tail _ (.tail _ (.tail _ h))) | exact fun _ h => .tail _ (.tail _ (.tail _ (.tail _ (.tail _ h)))) | exact fun _ h => .tail _ (.tail _ (.tail _ (.tail _ (.tail _ (.tail _ h))))) | exact fun _ h => .tail _ (.tail _ (.tail _ (.tail _ (.tail _ (.tail _ (.tail _ h)))))) | exact fun _ h => .tail _ (.tail _ (.tail _ (.tail _ (.tail _ (.tail _ (.tail _ (.tail _ h))))))) | exact fun _ h => .tail _ (.tail _ (.tail _ (.tail _ (.tail _ (.tail _ (.tail _ (.tail _ (.tail _ h)))))))) | exact fun _ h => .tail _ (.tail _ (.tail _ (.tail _ (.tail _ (.tail _ (.tail _ (.tail _ (.tail _ (.tail _ h))))))))) | exact fun _ h => .tail _ (.tail _ (.tail _ (.tail _ (.tail _ (.tail _ (.tail _ (.tail _ (.tail _ (.tail _ (.tail _ h)))))))))) | exact fun _ h => .tail _ (.tail _ (.tail _ (.tail _ (.tail _ (.tail _ (.tail _ (.tail _ (.tail _ (.tail _ (.tail _ (.tail _ h))))))))))) | exact fun _ h => .tail _ (.tail _ (.tail _ (.tail _ (.tail _ (.tail _ (.tail _ (.tail _ (.tail _ (.tail _ (.tail _ (.tail _ (.tail _ h)))))))))))) | exact fun _ h => .tail _ (.tail _ (.tail _ (.tail _ (.tail _ (.tail _ (.tail _ (.tail _ (.tail _ (.tail _ (.tail _ (.tail _ (.tail _ (.tail _ h))))))))))))) | exact fun _ h => .tail _ (.tail _ (.tail _ (.tail _ (.tail _ (.tail _ (.tail _ (.tail _ (.tail _ (.tail _ (.tail _ (.tail _ (.tail _ (.tail _ (.tail _ h))))))))))))))) | exact Or.inl rfl); (case k3 => kun_tup); (case k5 => exact rfl); k_whole); intro h' F' N'; (try k_sweep)))
local macro_rules | `(tactic| walk_at "assign Tuple") => `(tactic| (k_here; (with_reducible show wpAny _ _ (assign (Expr.Tuple _ _ _) _ (Value.ref _)) _ _ _); k_dflt (refine' Mine.assign_calm ?kA ?kC ?k1 ?k2 ?k3 ?k5 ?k6 ?_; (case kA => exact rfl); (case k1 => k_asm); (case k2 => k_asm); (case kC => first | exact Mine.CalmN.at (by assumption) (by k_asm) (by first | exact fun _ h => h | exact fun _ h => .tail _ h | exact fun _ h => .tail _ (.tail _ h) | exact fun _ h => .tail _ (.tail _ (.tail _ h)) | exact fun _ h => .tail _ (.tail _ (.tail _ (.tail _ h))) | exact fun _ h => .tail _ (.tail _ (.tail _ (.tail _ (.tail _ h)))) | exact fun _ h => .tail _ (.tail _ (.tail _ (.tail _ (.tail _ (.tail _ h))))) | exact fun _ h => .tail _ (.tail _ (.tail _ (.tail _ (.tail _ (.tail _ (.tail _ h)))))) | exact fun _ h => .tail _ (.tail _ (.tail _ (.tail _ (.tail _ (.tail _ (.tail _ (.tail _ h))))))) | exact fun _ h => .tail _ (.tail _ (.tail _ (.tail _ (.tail _ (.tail _ (.tail _ (.tail _ (.tail _ h)))))))) | exact fun _ h => .tail _ (.tail _ (.tail _ (.tail _ (.tail _ (.tail _ (.tail _ (.tail _ (.tail _ (.tail _ h))))))))) | exact fun _ h => .tail _ (.tail _ (.tail _ (.tail _ (.tail _ (.tail _ (.tail _ (.tail _ (.tail _ (.tail _ (.tail _ h)))))))))) | exact fun _ h => .tail _ (.tail _ (.tail _ (.tail _ (.tail _ (.tail _ (.tail _ (.tail _ (.tail _ (.tail _ (.tail _ (.tail _ h))))))))))) | exact fun _ h => .tail _ (.tail _ (.tail _ (.tail _ (.tail _ (.tail _ (.tail _ (.tail _ (.tail _ (.tail _ (.tail _ (.tail _ (.tail _ h)))))))))))) | exact fun _ h => .tail _ (.tail _ (.tail _ (.tail _ (.tail _ (.tail _ (.tail _ (.tail _ (.tail _ (.tail _ (.tail _ (.tail _ (.tail _ (.tail _ h))))))))))))) | exact fun _ h => .tail _ (.tail _ (.tail _ (.tail _ (.tail _ (.tail _ (.tail _ (.tail _ (.tail _ (.tail _ (.tail _ (.tail _ (.tail _ (.tail _ (.tail _ h))))))))))))))) | exact Or.inl rfl); (case k3 => kun_tup); (case k5 => exact rfl); (case k6 => exact rfl); k_whole); intro h' F' N'; (try k_sweep)))
local macro_rules | `(tactic| walk_at "call builtin:min") => `(tactic| (k_here; (with_reducible show wpAny _ _ (call (Value.builtin _) [Value.int _ _, Value.int _ _]) _ _ _); k_dflt (refine' Mine.min_calm ?kA ?kC ?k1 ?k2 ?_; (case kA => exact rfl); (case k1 => k_asm); (case k2 => k_asm); (case kC => first | exact Mine.CalmN.at (by assumption) (by k_asm) (by first | exact fun _ h => h | exact fun _ h => .tail _ h | exact fun _ h => .tail _ (.tail _ h) | exact fun _ h => .tail _ (.tail _ (.tail _ h)) | exact fun _ h => .tail _ (.tail _ (.tail _ (.tail _ h))) | exact fun _ h => .tail _ (.tail _ (.tail _ (.tail _ (.tail _ h)))) | exact fun _ h => .tail _ (.tail _ (.tail _ (.tail _ (.tail _ (.tail _ h))))) | exact fun _ h => .tail _ (.tail _ (.tail _ (.tail _ (.tail _ (.tail _ (.tail _ h)))))) | exact fun _ h => .tail _ (.tail _ (.tail _ (.tail _ (.tail _ (.tail _ (.tail _ (.tail _ h))))))) | exact fun _ h => .tail _ (.tail _ (.tail _ (.tail _ (.tail _ (.tail _ (.tail _ (.tail _ (.tail _ h)))))))) | exact fun _ h => .tail _ (.tail _ (.tail _ (.tail _ (.tail _ (.tail _ (.tail _ (.tail _ (.tail _ (.tail _ h))))))))) | exact fun _ h => .tail _ (.tail _ (.tail _ (.tail _ (.tail _ (.tail _ (.tail _ (.tail _ (.tail _ (.tail _ (.tail _ h)))))))))) | exact fun _ h => .tail _ (.tail _ (.tail _ (.tail _ (.tail _ (.tail _ (.tail _ (.tail _ (.tail _ (.tail _ (.tail _ (.tail _ h))))))))))) | exact fun _ h => .tail _ (.tail _ (.tail _ (.tail _ (.tail _ (.tail _ (.tail _ (.tail _ (.tail _ (.tail _ (.tail _ (.tail _ (.tail _ h)))))))))))) | exact fun _ h => .tail _ (.tail _ (.tail _ (.tail _ (.tail _ (.tail _ (.tail _ (.tail _ (.tail _ (.tail _ (.tail _ (.tail _ (.tail _ (.tail _ h))))))))))))) | exact fun _ h => .tail _ (.tail _ (.tail _ (.tail _ (.tail _ (.tail _ (.tail _ (.tail _ (.tail _ (.tail _ (.tail _ (.tail _ (.tail _ (.tail _ (.tail _ h))))))))))))))) | exact Or.inl rfl); k_whole); intro h9 tk9 F9 N9; (try dsimp only)))
local macro_rules | `(tactic| walk_at "call builtin:max") => `(tactic| (k_here; (with_reducible show wpAny _ _ (call (Value.builtin _) [Value.int _ _, Value.int _ _]) _ _ _); k_dflt (refine' Mine.max_wc ?kA ?kC ?k1 ?k2 ?_; (case kA => exact rfl); (case k1 => k_asm); (case k2 => k_asm); (case kC => first | exact Mine.CalmN.at (by assumption) (by k_asm) (by first | exact fun _ h => h | exact fun _ h => .tail _ h | exact fun _ h => .tail _ (.tail _ h) | exact fun _ h => .tail _ (.tail _ (.tail _ h)) | exact fun _ h => .tail _ (.tail _ (.tail _ (.tail _ h))) | exact fun _ h => .tail _ (.tail _ (.tail _ (.tail _ (.tail _ h)))) | exact fun _ h => .tail _ (.tail _ (.tail _ (.tail _ (.tail _ (.tail _ h))))) | exact fun _ h => .tail _ (.tail _ (.tail _ (.tail _ (.tail _ (.tail _ (.tail _ h)))))) | exact fun _ h => .tail _ (.tail _ (.tail _ (.tail _ (.tail _ (.tail _ (.tail _ (.tail _ h))))))) | exact fun _ h => .tail _ (.tail _ (.tail _ (.tail _ (.tail _ (.tail _ (.tail _ (.tail _ (.tail _ h)))))))) | exact fun _ h => .tail _ (.tail _ (.tail _ (.tail _ (.tail _ (.tail _ (.tail _ (.tail _ (.tail _ (.tail _ h))))))))) | exact fun _ h => .tail _ (.tail _ (.tail _ (.tail _ (.tail _ (.tail _ (.tail _ (.tail _ (.tail _ (.tail _ (.tail _ h)))))))))) | exact fun _ h => .tail _ (.tail _ (.tail _ (.tail _ (.tail _ (.tail _ (.tail _ (.tail _ (.tail _ (.tail _ (.tail _ (.tail _ h))))))))))) | exact fun _ h => .tail _ (.tail _ (.tail _ (.tail _ (.tail _ (.tail _ (.tail _ (.tail _ (.tail _ (.tail _ (.tail _ (.tail _ (.tail _ h)))))))))))) | exact fun _ h => .tail _ (.tail _ (.tail _ (.tail _ (.tail _ (.tail _ (.tail _ (.tail _ (.tail _ (.tail _ (.tail _ (.tail _ (.tail _ (.tail _ h))))))))))))) | exact fun _ h => .tail _ (.tail _ (.tail _ (.tail _ (.tail _ (.tail _ (.tail _ (.tail _ (.tail _ (.tail _ (.tail _ (.tail _ (.tail _ (.tail _ (.tail _ h))))))))))))))) | exact Or.inl rfl); k_whole); intro v9 h9 tk9 F9 N9; (try dsimp only)))
local macro_rules | `(tactic| walk_at "exec Assert") => `(tactic| (refine Mine.assert_holds ?_))

local macro_rules | `(tactic| walk_at "call ref") => `(tactic| (k_here; (with_reducible show wpAny _ _ (call (Value.ref 148) _) _ _ _); k_dflt (refine' Mine.Ctr.use (Mine.c_number _ _ _ _ _ _ _ _ ?m1 ?m2 ?_ ?_ ?_) ?k1 ?k2 ?k3 ?k4 ?k5 ?k6 ?k7 ?k8 ?k9 ?_; (case k1 => k_asm); (case k2 => k_asm); (case k3 => k_asm); (case k4 => k_asm); (case k5 => k_asm); (case k9 => first | assumption | exact Mine.CalmN.sub (by assumption) (by first | exact fun _ h => h | exact fun _ h => .tail _ h | exact fun _ h => .tail _ (.tail _ h) | exact fun _ h => .tail _ (.tail _ (.tail _ h)) | exact fun _ h => .tail _ (.tail _ (.tail _ (.tail _ h))) | exact fun _ h => .tail _ (.tail _ (.tail _ (.tail _ (.tail _ h)))) | exact fun _ h => .tail _ (.tail _ (.tail _ (.tail _ (.tail _ (.tail _ h))))) | exact fun _ h => .tail _ (.tail _ (.tail _ (.tail _ (.tail _ (.tail _ (.tail _ h)))))) | exact fun _ h => .tail _ (.tail _ (.tail _ (.tail _ (.tail _ (.tail _ (.tail _ (.tail _ h))))))) | exact fun _ h => .tail _ (.tail _ (.tail _ (.tail _ (.tail _ (.tail _ (.tail _ (.tail _ (.tail _ h)))))))) | exact fun _ h => .tail _ (.tail _ (.tail _ (.tail _ (.tail _ (.tail _ (.tail _ (.tail _ (.tail _ (.tail _ h))))))))) | exact fun _ h => .tail _ (.tail _ (.tail _ (.tail _ (.tail _ (.tail _ (.tail _ (.tail _ (.tail _ (.tail _ (.tail _ h)))))))))) | exact fun _ h => .tail _ (.tail _ (.tail _ (.tail _ (.tail _ (.tail _ (.tail _ (.tail _ (.tail _ (.tail _ (.tail _ (.tail _ h))))))))))) | exact fun _ h => .tail _ (.tail _ (.tail _ (.tail _ (.tail _ (.tail _ (.tail _ (.tail _ (.tail _ (.tail _ (.tail _ (.tail _ (.tail _ h)))))))))))) | exact fun _ h => .tail _ (.tail _ (.tail _ (.tail _ (.tail _ (.tail _ (.tail _ (.tail _ (.tail _ (.tail _ (.tail _ (.tail _ (.tail _ (.tail _ h))))))))))))) | exact fun _ h => .tail _ (.tail _ (.tail _ (.tail _ (.tail _ (.tail _ (.tail _ (.tail _ (.tail _ (.tail _ (.tail _ (.tail _ (.tail _ (.tail _ (.tail _ h))))))))))))))) | exact Or.inl rfl); (case k6 => first | exact rfl | assumption); (case k7 => first | ((try dsimp only [Mine.ktrX]); (try simp only [depth_under_make, depth_under_kw, depth_in1, depth_deeper, depth_caller]); (try dsimp only [Mine.ktrX]); omega) | ((try dsimp only [Mine.ktrX] at *); ktr_room)); (case k8 => first | ((try dsimp only [Mine.ktrX]); (try simp only [units_in1, units_deeper, Around.mark_units, units_caller]); (try dsimp only [Mine.ktrX]); omega) | ((try dsimp only [Mine.ktrX] at *); ktr_units)); (case m1 => first | assumption | exact List.Mem.head _ | exact .tail _ (by assumption) | exact .tail _ (.head _) | exact .tail _ (.tail _ (by assumption)) | exact .tail _ (.tail _ (.head _)) | exact .tail _ (.tail _ (.tail _ (by assumption))) | exact .tail _ (.tail _ (.tail _ (.head _))) | exact .tail _ (.tail _ (.tail _ (.tail _ (by assumption)))) | exact .tail _ (.tail _ (.tail _ (.tail _ (.head _)))) | exact .tail _ (.tail _ (.tail _ (.tail _ (.tail _ (by assumption))))) | exact .tail _ (.tail _ (.tail _ (.tail _ (.tail _ (.head _))))) | exact .tail _ (.tail _ (.tail _ (.tail _ (.tail _ (.tail _ (by assumption)))))) | exact .tail _ (.tail _ (.tail _ (.tail _ (.tail _ (.tail _ (.head _)))))) | exact .tail _ (.tail _ (.tail _ (.tail _ (.tail _ (.tail _ (.tail _ (by assumption))))))) | exact .tail _ (.tail _ (.tail _ (.tail _ (.tail _ (.tail _ (.tail _ (.head _))))))) | k_mem); (case m2 => first | assumption | exact List.Mem.head _ | exact .tail _ (by assumption) | exact .tail _ (.head _) | exact .tail _ (.tail _ (by assumption)) | exact .tail _ (.tail _ (.head _)) | exact .tail _ (.tail _ (.tail _ (by assumption))) | exact .tail _ (.tail _ (.tail _ (.head _))) | exact .tail _ (.tail _ (.tail _ (.tail _ (by assumption)))) | exact .tail _ (.tail _ (.tail _ (.tail _ (.head _)))) | exact .tail _ (.tail _ (.tail _ (.tail _ (.tail _ (by assumption))))) | exact .tail _ (.tail _ (.tail _ (.tail _ (.tail _ (.head _))))) | exact .tail _ (.tail _ (.tail _ (.tail _ (.tail _ (.tail _ (by assumption)))))) | exact .tail _ (.tail _ (.tail _ (.tail _ (.tail _ (.tail _ (.head _)))))) | exact .tail _ (.tail _ (.tail _ (.tail _ (.tail _ (.tail _ (.tail _ (by assumption))))))) | exact .tail _ (.tail _ (.tail _ (.tail _ (.tail _ (.tail _ (.tail _ (.head _))))))) | k_mem); (all_goals skip); (first | with_reducible exact Mine.HypAll.b1 (by assumption) | with_reducible exact Mine.HypAll.b2 (by assumption) | with_reducible exact Mine.HypAll.c1 (by assumption) | with_reducible exact Mine.HypAll.c2 (by assumption) | with_reducible exact Mine.HypAll.m1 (by assumption) | with_reducible exact Mine.HypAll.m2 (by assumption) | with_reducible exact Mine.HypAll.m3 (by assumption) | with_reducible exact Mine.HypAll.m4 (by assumption) | with_reducible exact Mine.HypAll.l1 (by assumption) | with_reducible exact Mine.HypAll.l2 (by assumption) | with_reducible exact Mine.HypAll.n1 (by assumption) | with_reducible exact Mine.HypAll.n2 (by assumption) | with_reducible exact Mine.HypAll.s0 (by assumption) | with_reducible exact Mine.HypAll.sb (by assumption) | with_reducible exact Mine.HypAll.sb2 (by assumption) | with_reducible exact Mine.HypAll.x1 (by assumption) | with_reducible exact Mine.HypAll.x2 (by assumption) | with_reducible exact Mine.HypAll.x3 (by assumption) | with_reducible exact Mine.HypAll.x4 (by assumption) | with_reducible exact Mine.HypAll.x5 (by assumption) | with_reducible exact Mine.HypAll.x6 (by assumption) | with_reducible exact Mine.HypAll.y1 (by assumption) | with_reducible exact Mine.HypAll.y2 (by assumption) | with_reducible exact Mine.HypAll.y3 (by assumption) | with_reducible exact Mine.HypAll.y4 (by assumption) | with_reducible exact Mine.HypAll.y5 (by assumption) | with_reducible exact Mine.HypAll.y6 (by assumption) | with_reducible exact Mine.HypAll.y7 (by assumption) | with_reducible exact Mine.HypAll.z1 (by assumption) | with_reducible exact Mine.HypAll.z2 (by assumption) | with_reducible exact Mine.HypAll.z3 (by assumption) | with_reducible exact Mine.HypAll.z4 (by assumption) | with_reducible exact Mine.HypAll.z5 (by assumption) | with_reducible exact Mine.HypAll.e1 (by assumption) | decide | with_reducible exact PySem.IntMulOk.of_left (by decide) | assumption | omega | rotate_left); (first | with_reducible exact Mine.HypAll.b1 (by assumption) | with_reducible exact Mine.HypAll.b2 (by assumption) | with_reducible exact Mine.HypAll.c1 (by assumption) | with_reducible exact Mine.HypAll.c2 (by assumption) | with_reducible exact Mine.HypAll.m1 (by assumption) | with_reducible exact Mine.HypAll.m2 (by assumption) | with_reducible exact Mine.HypAll.m3 (by assumption) | with_reducible exact Mine.HypAll.m4 (by assumption) | with_reducible exact Mine.HypAll.l1 (by assumption) | with_reducible exact Mine.HypAll.l2 (by assumption) | with_reducible exact Mine.HypAll.n1 (by assumption) | with_reducible exact Mine.HypAll.n2 (by assumption) | with_reducible exact Mine.HypAll.s0 (by assumption) | with_reducible exact Mine.HypAll.sb (by assumption) | with_reducible exact Mine.HypAll.sb2 (by assumption) | with_reducible exact Mine.HypAll.x1 (by assumption) | with_reducible exact Mine.HypAll.x2 (by assumption) | with_reducible exact Mine.HypAll.x3 (by assumption) | with_reducible exact Mine.HypAll.x4 (by assumption) | with_reducible exact Mine.HypAll.x5 (by assumption) | with_reducible exact Mine.HypAll.x6 (by assumption) | with_reducible exact Mine.HypAll.y1 (by assumption) | with_reducible exact Mine.HypAll.y2 (by assumption) | with_reducible exact Mine.HypAll.y3 (by assumption) | with_reducible exact Mine.HypAll.y4 (by assumption) | with_reducible exact Mine.HypAll.y5 (by assumption) | with_reducible exact Mine.HypAll.y6 (by assumption) | with_reducible exact Mine.HypAll.y7 (by assumption) | with_reducible exact Mine.HypAll.z1 (by assumption) | with_reducible exact Mine.HypAll.z2 (by assumption) | with_reducible exact Mine.HypAll.z3 (by assumption) | with_reducible exact Mine.HypAll.z4 (by assumption) | with_reducible exact Mine.HypAll.z5 (by assumption) | with_reducible exact Mine.HypAll.e1 (by assumption) | decide | with_reducible exact PySem.IntMulOk.of_left (by decide) | assumption | omega | rotate_left); (first | with_reducible exact Mine.HypAll.b1 (by assumption) | with_reducible exact Mine.HypAll.b2 (by assumption) | with_reducible exact Mine.HypAll.c1 (by assumption) | with_reducible exact Mine.HypAll.c2 (by assumption) | with_reducible exact Mine.HypAll.m1 (by assumption) | with_reducible exact Mine.HypAll.m2 (by assumption) | with_reducible exact Mine.HypAll.m3 (by assumption) | with_reducible exact Mine.HypAll.m4 (by assumption) | with_reducible exact Mine.HypAll.l1 (by assumption) | with_reducible exact Mine.HypAll.l2 (by assumption) | with_reducible exact Mine.HypAll.n1 (by assumption) | with_reducible exact Mine.HypAll.n2 (by assumption) | with_reducible exact Mine.HypAll.s0 (by assumption) | with_reducible exact Mine.HypAll.sb (by assumption) | with_reducible exact Mine.HypAll.sb2 (by assumption) | with_reducible exact Mine.HypAll.x1 (by assumption) | with_reducible exact Mine.HypAll.x2 (by assumption) | with_reducible exact Mine.HypAll.x3 (by assumption) | with_reducible exact Mine.HypAll.x4 (by assumption) | with_reducible exact Mine.HypAll.x5 (by assumption) | with_reducible exact Mine.HypAll.x6 (by assumption) | with_reducible exact Mine.HypAll.y1 (by assumption) | with_reducible exact Mine.HypAll.y2 (by assumption) | with_reducible exact Mine.HypAll.y3 (by assumption) | with_reducible exact Mine.HypAll.y4 (by assumption) | with_reducible exact Mine.HypAll.y5 (by assumption) | with_reducible exact Mine.HypAll.y6 (by assumption) | with_reducible exact Mine.HypAll.y7 (by assumption) | with_reducible exact Mine.HypAll.z1 (by assumption) | with_reducible exact Mine.HypAll.z2 (by assumption) | with_reducible exact Mine.HypAll.z3 (by assumption) | with_reducible exact Mine.HypAll.z4 (by assumption) | with_reducible exact Mine.HypAll.z5 (by assumption) | with_reducible exact Mine.HypAll.e1 (by assumption) | decide | with_reducible exact PySem.IntMulOk.of_left (by decide) | assumption | omega | rotate_left)); intro t9 h9 tk9 F9 N9; (try dsimp only); (try k_fold)))
local macro_rules | `(tactic| walk_at "call ref") => `(tactic| (k_here; (with_reducible show wpAny _ _ (call (Value.ref 162) _) _ _ _); k_dflt (refine' Mine.Ctr.use (Mine.c_less _ _ _ _ _ _ _ _ _ _ ?_ ?_ ?_ ?_) ?k1 ?k2 ?k3 ?k4 ?k5 ?k6 ?k7 ?k8 ?k9 ?_; (case k1 => k_asm); (case k2 => k_asm); (case k3 => k_asm); (case k4 => k_asm); (case k5 => k_asm); (case k9 => first | assumption | exact Mine.CalmN.sub (by assumption) (by first | exact fun _ h => h | exact fun _ h => .tail _ h | exact fun _ h => .tail _ (.tail _ h) | exact fun _ h => .tail _ (.tail _ (.tail _ h)) | exact fun _ h => .tail _ (.tail _ (.tail _ (.tail _ h))) | exact fun _ h => .tail _ (.tail _ (.tail _ (.tail _ (.tail _ h)))) | exact fun _ h => .tail _ (.tail _ (.tail _ (.tail _ (.tail _ (.tail _ h))))) | exact fun _ h => .tail _ (.tail _ (.tail _ (.tail _ (.tail _ (.tail _ (.tail _ h)))))) | exact fun _ h => .tail _ (.tail _ (.tail _ (.tail _ (.tail _ (.tail _ (.tail _ (.tail _ h))))))) | exact fun _ h => .tail _ (.tail _ (.tail _ (.tail _ (.tail _ (.tail _ (.tail _ (.tail _ (.tail _ h)))))))) | exact fun _ h => .tail _ (.tail _ (.tail _ (.tail _ (.tail _ (.tail _ (.tail _ (.tail _ (.tail _ (.tail _ h))))))))) | exact fun _ h => .tail _ (.tail _ (.tail _ (.tail _ (.tail _ (.tail _ (.tail _ (.tail _ (.tail _ (.tail _ (.tail _ h)))))))))) | exact fun _ h => .tail _ (.tail _ (.tail _ (.tail _ (.tail _ (.tail _ (.tail _ (.tail _ (.tail _ (.tail _ (.tail _ (.tail _ h))))))))))) | exact fun _ h => .tail _ (.tail _ (.tail _ (.tail _ (.tail _ (.tail _ (.tail _ (.tail _ (.tail _ (.tail _ (.tail _ (.tail _ (.tail _ h)))))))))))) | exact fun _ h => .tail _ (.tail _ (.tail _ (.tail _ (.tail _ (.tail _ (.tail _ (.tail _ (.tail _ (.tail _ (.tail _ (.tail _ (.tail _ (.tail _ h))))))))))))) | exact fun _ h => .tail _ (.tail _ (.tail _ (.tail _ (.tail _ (.tail _ (.tail _ (.tail _ (.tail _ (.tail _ (.tail _ (.tail _ (.tail _ (.tail _ (.tail _ h))))))))))))))) | exact Or.inl rfl); (case k6 => first | exact rfl | assumption); (case k7 => first | ((try dsimp only [Mine.ktrX]); (try simp only [depth_under_make, depth_under_kw, depth_in1, depth_deeper, depth_caller]); (try dsimp only [Mine.ktrX]); omega) | ((try dsimp only [Mine.ktrX] at *); ktr_room)); (case k8 => first | ((try dsimp only [Mine.ktrX]); (try simp only [units_in1, units_deeper, Around.mark_units, units_caller]); (try dsimp only [Mine.ktrX]); omega) | ((try dsimp only [Mine.ktrX] at *); ktr_units)); (first | with_reducible exact Mine.HypAll.b1 (by assumption) | with_reducible exact Mine.HypAll.b2 (by assumption) | with_reducible exact Mine.HypAll.c1 (by assumption) | with_reducible exact Mine.HypAll.c2 (by assumption) | with_reducible exact Mine.HypAll.m1 (by assumption) | with_reducible exact Mine.HypAll.m2 (by assumption) | with_reducible exact Mine.HypAll.m3 (by assumption) | with_reducible exact Mine.HypAll.m4 (by assumption) | with_reducible exact Mine.HypAll.l1 (by assumption) | with_reducible exact Mine.HypAll.l2 (by assumption) | with_reducible exact Mine.HypAll.n1 (by assumption) | with_reducible exact Mine.HypAll.n2 (by assumption) | with_reducible exact Mine.HypAll.s0 (by assumption) | with_reducible exact Mine.HypAll.sb (by assumption) | with_reducible exact Mine.HypAll.sb2 (by assumption) | with_reducible exact Mine.HypAll.x1 (by assumption) | with_reducible exact Mine.HypAll.x2 (by assumption) | with_reducible exact Mine.HypAll.x3 (by assumption) | with_reducible exact Mine.HypAll.x4 (by assumption) | with_reducible exact Mine.HypAll.x5 (by assumption) | with_reducible exact Mine.HypAll.x6 (by assumption) | with_reducible exact Mine.HypAll.y1 (by assumption) | with_reducible exact Mine.HypAll.y2 (by assumption) | with_reducible exact Mine.HypAll.y3 (by assumption) | with_reducible exact Mine.HypAll.y4 (by assumption) | with_reducible exact Mine.HypAll.y5 (by assumption) | with_reducible exact Mine.HypAll.y6 (by assumption) | with_reducible exact Mine.HypAll.y7 (by assumption) | with_reducible exact Mine.HypAll.z1 (by assumption) | with_reducible exact Mine.HypAll.z2 (by assumption) | with_reducible exact Mine.HypAll.z3 (by assumption) | with_reducible exact Mine.HypAll.z4 (by assumption) | with_reducible exact Mine.HypAll.z5 (by assumption) | with_reducible exact Mine.HypAll.e1 (by assumption) | decide | with_reducible exact PySem.IntMulOk.of_left (by decide) | assumption | omega | rotate_left); (first | with_reducible exact Mine.HypAll.b1 (by assumption) | with_reducible exact Mine.HypAll.b2 (by assumption) | with_reducible exact Mine.HypAll.c1 (by assumption) | with_reducible exact Mine.HypAll.c2 (by assumption) | with_reducible exact Mine.HypAll.m1 (by assumption) | with_reducible exact Mine.HypAll.m2 (by assumption) | with_reducible exact Mine.HypAll.m3 (by assumption) | with_reducible exact Mine.HypAll.m4 (by assumption) | with_reducible exact Mine.HypAll.l1 (by assumption) | with_reducible exact Mine.HypAll.l2 (by assumption) | with_reducible exact Mine.HypAll.n1 (by assumption) | with_reducible exact Mine.HypAll.n2 (by assumption) | with_reducible exact Mine.HypAll.s0 (by assumption) | with_reducible exact Mine.HypAll.sb (by assumption) | with_reducible exact Mine.HypAll.sb2 (by assumption) | with_reducible exact Mine.HypAll.x1 (by assumption) | with_reducible exact Mine.HypAll.x2 (by assumption) | with_reducible exact Mine.HypAll.x3 (by assumption) | with_reducible exact Mine.HypAll.x4 (by assumption) | with_reducible exact Mine.HypAll.x5 (by assumption) | with_reducible exact Mine.HypAll.x6 (by assumption) | with_reducible exact Mine.HypAll.y1 (by assumption) | with_reducible exact Mine.HypAll.y2 (by assumption) | with_reducible exact Mine.HypAll.y3 (by assumption) | with_reducible exact Mine.HypAll.y4 (by assumption) | with_reducible exact Mine.HypAll.y5 (by assumption) | with_reducible exact Mine.HypAll.y6 (by assumption) | with_reducible exact Mine.HypAll.y7 (by assumption) | with_reducible exact Mine.HypAll.z1 (by assumption) | with_reducible exact Mine.HypAll.z2 (by assumption) | with_reducible exact Mine.HypAll.z3 (by assumption) | with_reducible exact Mine.HypAll.z4 (by assumption) | with_reducible exact Mine.HypAll.z5 (by assumption) | with_reducible exact Mine.HypAll.e1 (by assumption) | decide | with_reducible exact PySem.IntMulOk.of_left (by decide) | assumption | omega | rotate_left); (first | with_reducible exact Mine.HypAll.b1 (by assumption) | with_reducible exact Mine.HypAll.b2 (by assumption) | with_reducible exact Mine.HypAll.c1 (by assumption) | with_reducible exact Mine.HypAll.c2 (by assumption) | with_reducible exact Mine.HypAll.m1 (by assumption) | with_reducible exact Mine.HypAll.m2 (by assumption) | with_reducible exact Mine.HypAll.m3 (by assumption) | with_reducible exact Mine.HypAll.m4 (by assumption) | with_reducible exact Mine.HypAll.l1 (by assumption) | with_reducible exact Mine.HypAll.l2 (by assumption) | with_reducible exact Mine.HypAll.n1 (by assumption) | with_reducible exact Mine.HypAll.n2 (by assumption) | with_reducible exact Mine.HypAll.s0 (by assumption) | with_reducible exact Mine.HypAll.sb (by assumption) | with_reducible exact Mine.HypAll.sb2 (by assumption) | with_reducible exact Mine.HypAll.x1 (by assumption) | with_reducible exact Mine.HypAll.x2 (by assumption) | with_reducible exact Mine.HypAll.x3 (by assumption) | with_reducible exact Mine.HypAll.x4 (by assumption) | with_reducible exact Mine.HypAll.x5 (by assumption) | with_reducible exact Mine.HypAll.x6 (by assumption) | with_reducible exact Mine.HypAll.y1 (by assumption) | with_reducible exact Mine.HypAll.y2 (by assumption) | with_reducible exact Mine.HypAll.y3 (by assumption) | with_reducible exact Mine.HypAll.y4 (by assumption) | with_reducible exact Mine.HypAll.y5 (by assumption) | with_reducible exact Mine.HypAll.y6 (by assumption) | with_reducible exact Mine.HypAll.y7 (by assumption) | with_reducible exact Mine.HypAll.z1 (by assumption) | with_reducible exact Mine.HypAll.z2 (by assumption) | with_reducible exact Mine.HypAll.z3 (by assumption) | with_reducible exact Mine.HypAll.z4 (by assumption) | with_reducible exact Mine.HypAll.z5 (by assumption) | with_reducible exact Mine.HypAll.e1 (by assumption) | decide | with_reducible exact PySem.IntMulOk.of_left (by decide) | assumption | omega | rotate_left); (first | with_reducible exact Mine.HypAll.b1 (by assumption) | with_reducible exact Mine.HypAll.b2 (by assumption) | with_reducible exact Mine.HypAll.c1 (by assumption) | with_reducible exact Mine.HypAll.c2 (by assumption) | with_reducible exact Mine.HypAll.m1 (by assumption) | with_reducible exact Mine.HypAll.m2 (by assumption) | with_reducible exact Mine.HypAll.m3 (by assumption) | with_reducible exact Mine.HypAll.m4 (by assumption) | with_reducible exact Mine.HypAll.l1 (by assumption) | with_reducible exact Mine.HypAll.l2 (by assumption) | with_reducible exact Mine.HypAll.n1 (by assumption) | with_reducible exact Mine.HypAll.n2 (by assumption) | with_reducible exact Mine.HypAll.s0 (by assumption) | with_reducible exact Mine.HypAll.sb (by assumption) | with_reducible exact Mine.HypAll.sb2 (by assumption) | with_reducible exact Mine.HypAll.x1 (by assumption) | with_reducible exact Mine.HypAll.x2 (by assumption) | with_reducible exact Mine.HypAll.x3 (by assumption) | with_reducible exact Mine.HypAll.x4 (by assumption) | with_reducible exact Mine.HypAll.x5 (by assumption) | with_reducible exact Mine.HypAll.x6 (by assumption) | with_reducible exact Mine.HypAll.y1 (by assumption) | with_reducible exact Mine.HypAll.y2 (by assumption) | with_reducible exact Mine.HypAll.y3 (by assumption) | with_reducible exact Mine.HypAll.y4 (by assumption) | with_reducible exact Mine.HypAll.y5 (by assumption) | with_reducible exact Mine.HypAll.y6 (by assumption) | with_reducible exact Mine.HypAll.y7 (by assumption) | with_reducible exact Mine.HypAll.z1 (by assumption) | with_reducible exact Mine.HypAll.z2 (by assumption) | with_reducible exact Mine.HypAll.z3 (by assumption) | with_reducible exact Mine.HypAll.z4 (by assumption) | with_reducible exact Mine.HypAll.z5 (by assumption) | with_reducible exact Mine.HypAll.e1 (by assumption) | decide | with_reducible exact PySem.IntMulOk.of_left (by decide) | assumption | omega | rotate_left)); intro t9 h9 tk9 F9 N9; (try dsimp only); (try k_fold)))
local macro_rules | `(tactic| walk_at "call ref") => `(tactic| (k_here; (with_reducible show wpAny _ _ (call (Value.ref 155) _) _ _ _); k_dflt (refine' Mine.Ctr.use (Mine.c_told_any _ _ _ _ _ _ ?_) ?k1 ?k2 ?k3 ?k4 ?k5 ?k6 ?k7 ?k8 ?k9 ?_; (case k1 => k_asm); (case k2 => k_asm); (case k3 => k_asm); (case k4 => k_asm); (case k5 => k_asm); (case k9 => first | assumption | exact Mine.CalmN.sub (by assumption) (by first | exact fun _ h => h | exact fun _ h => .tail _ h | exact fun _ h => .tail _ (.tail _ h) | exact fun _ h => .tail _ (.tail _ (.tail _ h)) | exact fun _ h => .tail _ (.tail _ (.tail _ (.tail _ h))) | exact fun _ h => .tail _ (.tail _ (.tail _ (.tail _ (.tail _ h)))) | exact fun _ h => .tail _ (.tail _ (.tail _ (.tail _ (.tail _ (.tail _ h))))) | exact fun _ h => .tail _ (.tail _ (.tail _ (.tail _ (.tail _ (.tail _ (.tail _ h)))))) | exact fun _ h => .tail _ (.tail _ (.tail _ (.tail _ (.tail _ (.tail _ (.tail _ (.tail _ h))))))) | exact fun _ h => .tail _ (.tail _ (.tail _ (.tail _ (.tail _ (.tail _ (.tail _ (.tail _ (.tail _ h)))))))) | exact fun _ h => .tail _ (.tail _ (.tail _ (.tail _ (.tail _ (.tail _ (.tail _ (.tail _ (.tail _ (.tail _ h))))))))) | exact fun _ h => .tail _ (.tail _ (.tail _ (.tail _ (.tail _ (.tail _ (.tail _ (.tail _ (.tail _ (.tail _ (.tail _ h)))))))))) | exact fun _ h => .tail _ (.tail _ (.tail _ (.tail _ (.tail _ (.tail _ (.tail _ (.tail _ (.tail _ (.tail _ (.tail _ (.tail _ h))))))))))) | exact fun _ h => .tail _ (.tail _ (.tail _ (.tail _ (.tail _ (.tail _ (.tail _ (.tail _ (.tail _ (.tail _ (.tail _ (.tail _ (.tail _ h)))))))))))) | exact fun _ h => .tail _ (.tail _ (.tail _ (.tail _ (.tail _ (.tail _ (.tail _ (.tail _ (.tail _ (.tail _ (.tail _ (.tail _ (.tail _ (.tail _ h))))))))))))) | exact fun _ h => .tail _ (.tail _ (.tail _ (.tail _ (.tail _ (.tail _ (.tail _ (.tail _ (.tail _ (.tail _ (.tail _ (.tail _ (.tail _ (.tail _ (.tail _ h))))))))))))))) | exact Or.inl rfl); (case k6 => first | exact rfl | assumption); (case k7 => first | ((try dsimp only [Mine.ktrX]); (try simp only [depth_under_make, depth_under_kw, depth_in1, depth_deeper, depth_caller]); (try dsimp only [Mine.ktrX]); omega) | ((try dsimp only [Mine.ktrX] at *); ktr_room)); (case k8 => first | ((try dsimp only [Mine.ktrX]); (try simp only [units_in1, units_deeper, Around.mark_units, units_caller]); (try dsimp only [Mine.ktrX]); omega) | ((try dsimp only [Mine.ktrX] at *); ktr_units)); (first | with_reducible exact Mine.HypAll.b1 (by assumption) | with_reducible exact Mine.HypAll.b2 (by assumption) | with_reducible exact Mine.HypAll.c1 (by assumption) | with_reducible exact Mine.HypAll.c2 (by assumption) | with_reducible exact Mine.HypAll.m1 (by assumption) | with_reducible exact Mine.HypAll.m2 (by assumption) | with_reducible exact Mine.HypAll.m3 (by assumption) | with_reducible exact Mine.HypAll.m4 (by assumption) | with_reducible exact Mine.HypAll.l1 (by assumption) | with_reducible exact Mine.HypAll.l2 (by assumption) | with_reducible exact Mine.HypAll.n1 (by assumption) | with_reducible exact Mine.HypAll.n2 (by assumption) | with_reducible exact Mine.HypAll.s0 (by assumption) | with_reducible exact Mine.HypAll.sb (by assumption) | with_reducible exact Mine.HypAll.sb2 (by assumption) | with_reducible exact Mine.HypAll.x1 (by assumption) | with_reducible exact Mine.HypAll.x2 (by assumption) | with_reducible exact Mine.HypAll.x3 (by assumption) | with_reducible exact Mine.HypAll.x4 (by assumption) | with_reducible exact Mine.HypAll.x5 (by assumption) | with_reducible exact Mine.HypAll.x6 (by assumption) | with_reducible exact Mine.HypAll.y1 (by assumption) | with_reducible exact Mine.HypAll.y2 (by assumption) | with_reducible exact Mine.HypAll.y3 (by assumption) | with_reducible exact Mine.HypAll.y4 (by assumption) | with_reducible exact Mine.HypAll.y5 (by assumption) | with_reducible exact Mine.HypAll.y6 (by assumption) | with_reducible exact Mine.HypAll.y7 (by assumption) | with_reducible exact Mine.HypAll.z1 (by assumption) | with_reducible exact Mine.HypAll.z2 (by assumption) | with_reducible exact Mine.HypAll.z3 (by assumption) | with_reducible exact Mine.HypAll.z4 (by assumption) | with_reducible exact Mine.HypAll.z5 (by assumption) | with_reducible exact Mine.HypAll.e1 (by assumption) | decide | with_reducible exact PySem.IntMulOk.of_left (by decide) | assumption | omega | rotate_left)); intro D9 t9 u9 v9 x9 h9 tk9 F9 N9; (try dsimp only); (try k_fold)))
local macro_rules | `(tactic| walk_at "call ref") => `(tactic| (k_here; (with_reducible show wpAny _ _ (call (Value.ref 169) _) _ _ _); k_dflt (refine' Mine.Ctr.use (Mine.c_root_any _ _ _ _ _ _ _ _ _ _ ?_ ?_ ?_ ?_) ?k1 ?k2 ?k3 ?k4 ?k5 ?k6 ?k7 ?k8 ?k9 ?_; (case k1 => k_asm); (case k2 => k_asm); (case k3 => k_asm); (case k4 => k_asm); (case k5 => k_asm); (case k9 => first | assumption | exact Mine.CalmN.sub (by assumption) (by first | exact fun _ h => h | exact fun _ h => .tail _ h | exact fun _ h => .tail _ (.tail _ h) | exact fun _ h => .tail _ (.tail _ (.tail _ h)) | exact fun _ h => .tail _ (.tail _ (.tail _ (.tail _ h))) | exact fun _ h => .tail _ (.tail _ (.tail _ (.tail _ (.tail _ h)))) | exact fun _ h => .tail _ (.tail _ (.tail _ (.tail _ (.tail _ (.tail _ h))))) | exact fun _ h => .tail _ (.tail _ (.tail _ (.tail _ (.tail _ (.tail _ (.tail _ h)))))) | exact fun _ h => .tail _ (.tail _ (.tail _ (.tail _ (.tail _ (.tail _ (.tail _ (.tail _ h))))))) | exact fun _ h => .tail _ (.tail _ (.tail _ (.tail _ (.tail _ (.tail _ (.tail _ (.tail _ (.tail _ h)))))))) | exact fun _ h => .tail _ (.tail _ (.tail _ (.tail _ (.tail _ (.tail _ (.tail _ (.tail _ (.tail _ (.tail _ h))))))))) | exact fun _ h => .tail _ (.tail _ (.tail _ (.tail _ (.tail _ (.tail _ (.tail _ (.tail _ (.tail _ (.tail _ (.tail _ h)))))))))) | exact fun _ h => .tail _ (.tail _ (.tail _ (.tail _ (.tail _ (.tail _ (.tail _ (.tail _ (.tail _ (.tail _ (.tail _ (.tail _ h))))))))))) | exact fun _ h => .tail _ (.tail _ (.tail _ (.tail _ (.tail _ (.tail _ (.tail _ (.tail _ (.tail _ (.tail _ (.tail _ (.tail _ (.tail _ h)))))))))))) | exact fun _ h => .tail _ (.tail _ (.tail _ (.tail _ (.tail _ (.tail _ (.tail _ (.tail _ (.tail _ (.tail _ (.tail _ (.tail _ (.tail _ (.tail _ h))))))))))))) | exact fun _ h => .tail _ (.tail _ (.tail _ (.tail _ (.tail _ (.tail _ (.tail _ (.tail _ (.tail _ (.tail _ (.tail _ (.tail _ (.tail _ (.tail _ (.tail _ h))))))))))))))) | exact Or.inl rfl); (case k6 => first | exact rfl | assumption); (case k7 => first | ((try dsimp only [Mine.ktrX]); (try simp only [depth_under_make, depth_under_kw, depth_in1, depth_deeper, depth_caller]); (try dsimp only [Mine.ktrX]); omega) | ((try dsimp only [Mine.ktrX] at *); ktr_room)); (case k8 => first | ((try dsimp only [Mine.ktrX]); (try simp only [units_in1, units_deeper, Around.mark_units, units_caller]); (try dsimp only [Mine.ktrX]); omega) | ((try dsimp only [Mine.ktrX] at *); ktr_units)); (first | with_reducible exact Mine.HypAll.b1 (by assumption) | with_reducible exact Mine.HypAll.b2 (by assumption) | with_reducible exact Mine.HypAll.c1 (by assumption) | with_reducible exact Mine.HypAll.c2 (by assumption) | with_reducible exact Mine.HypAll.m1 (by assumption) | with_reducible exact Mine.HypAll.m2 (by assumption) | with_reducible exact Mine.HypAll.m3 (by assumption) | with_reducible exact Mine.HypAll.m4 (by assumption) | with_reducible exact Mine.HypAll.l1 (by assumption) | with_reducible exact Mine.HypAll.l2 (by assumption) | with_reducible exact Mine.HypAll.n1 (by assumption) | with_reducible exact Mine.HypAll.n2 (by assumption) | with_reducible exact Mine.HypAll.s0 (by assumption) | with_reducible exact Mine.HypAll.sb (by assumption) | with_reducible exact Mine.HypAll.sb2 (by assumption) | with_reducible exact Mine.HypAll.x1 (by assumption) | with_reducible exact Mine.HypAll.x2 (by assumption) | with_reducible exact Mine.HypAll.x3 (by assumption) | with_reducible exact Mine.HypAll.x4 (by assumption) | with_reducible exact Mine.HypAll.x5 (by assumption) | with_reducible exact Mine.HypAll.x6 (by assumption) | with_reducible exact Mine.HypAll.y1 (by assumption) | with_reducible exact Mine.HypAll.y2 (by assumption) | with_reducible exact Mine.HypAll.y3 (by assumption) | with_reducible exact Mine.HypAll.y4 (by assumption) | with_reducible exact Mine.HypAll.y5 (by assumption) | with_reducible exact Mine.HypAll.y6 (by assumption) | with_reducible exact Mine.HypAll.y7 (by assumption) | with_reducible exact Mine.HypAll.z1 (by assumption) | with_reducible exact Mine.HypAll.z2 (by assumption) | with_reducible exact Mine.HypAll.z3 (by assumption) | with_reducible exact Mine.HypAll.z4 (by assumption) | with_reducible exact Mine.HypAll.z5 (by assumption) | with_reducible exact Mine.HypAll.e1 (by assumption) | decide | with_reducible exact PySem.IntMulOk.of_left (by decide) | assumption | omega | rotate_left); (first | with_reducible exact Mine.HypAll.b1 (by assumption) | with_reducible exact Mine.HypAll.b2 (by assumption) | with_reducible exact Mine.HypAll.c1 (by assumption) | with_reducible exact Mine.HypAll.c2 (by assumption) | with_reducible exact Mine.HypAll.m1 (by assumption) | with_reducible exact Mine.HypAll.m2 (by assumption) | with_reducible exact Mine.HypAll.m3 (by assumption) | with_reducible exact Mine.HypAll.m4 (by assumption) | with_reducible exact Mine.HypAll.l1 (by assumption) | with_reducible exact Mine.HypAll.l2 (by assumption) | with_reducible exact Mine.HypAll.n1 (by assumption) | with_reducible exact Mine.HypAll.n2 (by assumption) | with_reducible exact Mine.HypAll.s0 (by assumption) | with_reducible exact Mine.HypAll.sb (by assumption) | with_reducible exact Mine.HypAll.sb2 (by assumption) | with_reducible exact Mine.HypAll.x1 (by assumption) | with_reducible exact Mine.HypAll.x2 (by assumption) | with_reducible exact Mine.HypAll.x3 (by assumption) | with_reducible exact Mine.HypAll.x4 (by assumption) | with_reducible exact Mine.HypAll.x5 (by assumption) | with_reducible exact Mine.HypAll.x6 (by assumption) | with_reducible exact Mine.HypAll.y1 (by assumption) | with_reducible exact Mine.HypAll.y2 (by assumption) | with_reducible exact Mine.HypAll.y3 (by assumption) | with_reducible exact Mine.HypAll.y4 (by assumption) | with_reducible exact Mine.HypAll.y5 (by assumption) | with_reducible exact Mine.HypAll.y6 (by assumption) | with_reducible exact Mine.HypAll.y7 (by assumption) | with_reducible exact Mine.HypAll.z1 (by assumption) | with_reducible exact Mine.HypAll.z2 (by assumption) | with_reducible exact Mine.HypAll.z3 (by assumption) | with_reducible exact Mine.HypAll.z4 (by assumption) | with_reducible exact Mine.HypAll.z5 (by assumption) | with_reducible exact Mine.HypAll.e1 (by assumption) | decide | with_reducible exact PySem.IntMulOk.of_left (by decide) | assumption | omega | rotate_left); (first | with_reducible exact Mine.HypAll.b1 (by assumption) | with_reducible exact Mine.HypAll.b2 (by assumption) | with_reducible exact Mine.HypAll.c1 (by assumption) | with_reducible exact Mine.HypAll.c2 (by assumption) | with_reducible exact Mine.HypAll.m1 (by assumption) | with_reducible exact Mine.HypAll.m2 (by assumption) | with_reducible exact Mine.HypAll.m3 (by assumption) | with_reducible exact Mine.HypAll.m4 (by assumption) | with_reducible exact Mine.HypAll.l1 (by assumption) | with_reducible exact Mine.HypAll.l2 (by assumption) | with_reducible exact Mine.HypAll.n1 (by assumption) | with_reducible exact Mine.HypAll.n2 (by assumption) | with_reducible exact Mine.HypAll.s0 (by assumption) | with_reducible exact Mine.HypAll.sb (by assumption) | with_reducible exact Mine.HypAll.sb2 (by assumption) | with_reducible exact Mine.HypAll.x1 (by assumption) | with_reducible exact Mine.HypAll.x2 (by assumption) | with_reducible exact Mine.HypAll.x3 (by assumption) | with_reducible exact Mine.HypAll.x4 (by assumption) | with_reducible exact Mine.HypAll.x5 (by assumption) | with_reducible exact Mine.HypAll.x6 (by assumption) | with_reducible exact Mine.HypAll.y1 (by assumption) | with_reducible exact Mine.HypAll.y2 (by assumption) | with_reducible exact Mine.HypAll.y3 (by assumption) | with_reducible exact Mine.HypAll.y4 (by assumption) | with_reducible exact Mine.HypAll.y5 (by assumption) | with_reducible exact Mine.HypAll.y6 (by assumption) | with_reducible exact Mine.HypAll.y7 (by assumption) | with_reducible exact Mine.HypAll.z1 (by assumption) | with_reducible exact Mine.HypAll.z2 (by assumption) | with_reducible exact Mine.HypAll.z3 (by assumption) | with_reducible exact Mine.HypAll.z4 (by assumption) | with_reducible exact Mine.HypAll.z5 (by assumption) | with_reducible exact Mine.HypAll.e1 (by assumption) | decide | with_reducible exact PySem.IntMulOk.of_left (by decide) | assumption | omega | rotate_left); (first | with_reducible exact Mine.HypAll.b1 (by assumption) | with_reducible exact Mine.HypAll.b2 (by assumption) | with_reducible exact Mine.HypAll.c1 (by assumption) | with_reducible exact Mine.HypAll.c2 (by assumption) | with_reducible exact Mine.HypAll.m1 (by assumption) | with_reducible exact Mine.HypAll.m2 (by assumption) | with_reducible exact Mine.HypAll.m3 (by assumption) | with_reducible exact Mine.HypAll.m4 (by assumption) | with_reducible exact Mine.HypAll.l1 (by assumption) | with_reducible exact Mine.HypAll.l2 (by assumption) | with_reducible exact Mine.HypAll.n1 (by assumption) | with_reducible exact Mine.HypAll.n2 (by assumption) | with_reducible exact Mine.HypAll.s0 (by assumption) | with_reducible exact Mine.HypAll.sb (by assumption) | with_reducible exact Mine.HypAll.sb2 (by assumption) | with_reducible exact Mine.HypAll.x1 (by assumption) | with_reducible exact Mine.HypAll.x2 (by assumption) | with_reducible exact Mine.HypAll.x3 (by assumption) | with_reducible exact Mine.HypAll.x4 (by assumption) | with_reducible exact Mine.HypAll.x5 (by assumption) | with_reducible exact Mine.HypAll.x6 (by assumption) | with_reducible exact Mine.HypAll.y1 (by assumption) | with_reducible exact Mine.HypAll.y2 (by assumption) | with_reducible exact Mine.HypAll.y3 (by assumption) | with_reducible exact Mine.HypAll.y4 (by assumption) | with_reducible exact Mine.HypAll.y5 (by assumption) | with_reducible exact Mine.HypAll.y6 (by assumption) | with_reducible exact Mine.HypAll.y7 (by assumption) | with_reducible exact Mine.HypAll.z1 (by assumption) | with_reducible exact Mine.HypAll.z2 (by assumption) | with_reducible exact Mine.HypAll.z3 (by assumption) | with_reducible exact Mine.HypAll.z4 (by assumption) | with_reducible exact Mine.HypAll.z5 (by assumption) | with_reducible exact Mine.HypAll.e1 (by assumption) | decide | with_reducible exact PySem.IntMulOk.of_left (by decide) | assumption | omega | rotate_left)); intro D9 t9 u9 v9 x9 h9 tk9 F9 N9; (try dsimp only); (try k_fold)))
local macro_rules | `(tactic| walk_at "call ref") => `(tactic| (k_here; (with_reducible show wpAny _ _ (call (Value.ref 86) _) _ _ _); k_dflt (refine' Mine.Ctr.use (Mine.c_fme_any _ _ _ _ _ _ _ ?m1) ?k1 ?k2 ?k3 ?k4 ?k5 ?k6 ?k7 ?k8 ?k9 ?_; (case k1 => k_asm); (case k2 => k_asm); (case k3 => k_asm); (case k4 => k_asm); (case k5 => k_asm); (case k9 => first | assumption | exact Mine.CalmN.sub (by assumption) (by first | exact fun _ h => h | exact fun _ h => .tail _ h | exact fun _ h => .tail _ (.tail _ h) | exact fun _ h => .tail _ (.tail _ (.tail _ h)) | exact fun _ h => .tail _ (.tail _ (.tail _ (.tail _ h))) | exact fun _ h => .tail _ (.tail _ (.tail _ (.tail _ (.tail _ h)))) | exact fun _ h => .tail _ (.tail _ (.tail _ (.tail _ (.tail _ (.tail _ h))))) | exact fun _ h => .tail _ (.tail _ (.tail _ (.tail _ (.tail _ (.tail _ (.tail _ h)))))) | exact fun _ h => .tail _ (.tail _ (.tail _ (.tail _ (.tail _ (.tail _ (.tail _ (.tail _ h))))))) | exact fun _ h => .tail _ (.tail _ (.tail _ (.tail _ (.tail _ (.tail _ (.tail _ (.tail _ (.tail _ h)))))))) | exact fun _ h => .tail _ (.tail _ (.tail _ (.tail _ (.tail _ (.tail _ (.tail _ (.tail _ (.tail _ (.tail _ h))))))))) | exact fun _ h => .tail _ (.tail _ (.tail _ (.tail _ (.tail _ (.tail _ (.tail _ (.tail _ (.tail _ (.tail _ (.tail _ h)))))))))) | exact fun _ h => .tail _ (.tail _ (.tail _ (.tail _ (.tail _ (.tail _ (.tail _ (.tail _ (.tail _ (.tail _ (.tail _ (.tail _ h))))))))))) | exact fun _ h => .tail _ (.tail _ (.tail _ (.tail _ (.tail _ (.tail _ (.tail _ (.tail _ (.tail _ (.tail _ (.tail _ (.tail _ (.tail _ h)))))))))))) | exact fun _ h => .tail _ (.tail _ (.tail _ (.tail _ (.tail _ (.tail _ (.tail _ (.tail _ (.tail _ (.tail _ (.tail _ (.tail _ (.tail _ (.tail _ h))))))))))))) | exact fun _ h => .tail _ (.tail _ (.tail _ (.tail _ (.tail _ (.tail _ (.tail _ (.tail _ (.tail _ (.tail _ (.tail _ (.tail _ (.tail _ (.tail _ (.tail _ h))))))))))))))) | exact Or.inl rfl); (case k6 => first | exact rfl | assumption); (case k7 => first | ((try dsimp only [Mine.ktrX]); (try simp only [depth_under_make, depth_under_kw, depth_in1, depth_deeper, depth_caller]); (try dsimp only [Mine.ktrX]); omega) | ((try dsimp only [Mine.ktrX] at *); ktr_room)); (case k8 => first | ((try dsimp only [Mine.ktrX]); (try simp only [units_in1, units_deeper, Around.mark_units, units_caller]); (try dsimp only [Mine.ktrX]); omega) | ((try dsimp only [Mine.ktrX] at *); ktr_units)); (case m1 => first | assumption | exact List.Mem.head _ | exact .tail _ (by assumption) | exact .tail _ (.head _) | exact .tail _ (.tail _ (by assumption)) | exact .tail _ (.tail _ (.head _)) | exact .tail _ (.tail _ (.tail _ (by assumption))) | exact .tail _ (.tail _ (.tail _ (.head _))) | exact .tail _ (.tail _ (.tail _ (.tail _ (by assumption)))) | exact .tail _ (.tail _ (.tail _ (.tail _ (.head _)))) | exact .tail _ (.tail _ (.tail _ (.tail _ (.tail _ (by assumption))))) | exact .tail _ (.tail _ (.tail _ (.tail _ (.tail _ (.head _))))) | exact .tail _ (.tail _ (.tail _ (.tail _ (.tail _ (.tail _ (by assumption)))))) | exact .tail _ (.tail _ (.tail _ (.tail _ (.tail _ (.tail _ (.head _)))))) | exact .tail _ (.tail _ (.tail _ (.tail _ (.tail _ (.tail _ (.tail _ (by assumption))))))) | exact .tail _ (.tail _ (.tail _ (.tail _ (.tail _ (.tail _ (.tail _ (.head _))))))) | k_mem); (all_goals skip)); intro D9 p9 h9 tk9 V9 F9 N9; (try dsimp only); (try k_fold)))
local macro_rules | `(tactic| walk_at "call ref") => `(tactic| (k_here; (with_reducible show wpAny _ _ (call (Value.ref 141) _) _ _ _); k_dflt (refine' Mine.Ctr.use (Mine.c_hypot_any _ _ _ _ _ _ _ _ _ _ _ _ _ _ ?m1 ?m2 ?m3 ?m4 ?_ ?_ ?_ ?_ ?_ ?_) ?k1 ?k2 ?k3 ?k4 ?k5 ?k6 ?k7 ?k8 ?k9 ?_; (case k1 => k_asm); (case k2 => k_asm); (case k3 => k_asm); (case k4 => k_asm); (case k5 => k_asm); (case k9 => first | assumption | exact Mine.CalmN.sub (by assumption) (by first | exact fun _ h => h | exact fun _ h => .tail _ h | exact fun _ h => .tail _ (.tail _ h) | exact fun _ h => .tail _ (.tail _ (.tail _ h)) | exact fun _ h => .tail _ (.tail _ (.tail _ (.tail _ h))) | exact fun _ h => .tail _ (.tail _ (.tail _ (.tail _ (.tail _ h)))) | exact fun _ h => .tail _ (.tail _ (.tail _ (.tail _ (.tail _ (.tail _ h))))) | exact fun _ h => .tail _ (.tail _ (.tail _ (.tail _ (.tail _ (.tail _ (.tail _ h)))))) | exact fun _ h => .tail _ (.tail _ (.tail _ (.tail _ (.tail _ (.tail _ (.tail _ (.tail _ h))))))) | exact fun _ h => .tail _ (.tail _ (.tail _ (.tail _ (.tail _ (.tail _ (.tail _ (.tail _ (.tail _ h)))))))) | exact fun _ h => .tail _ (.tail _ (.tail _ (.tail _ (.tail _ (.tail _ (.tail _ (.tail _ (.tail _ (.tail _ h))))))))) | exact fun _ h => .tail _ (.tail _ (.tail _ (.tail _ (.tail _ (.tail _ (.tail _ (.tail _ (.tail _ (.tail _ (.tail _ h)))))))))) | exact fun _ h => .tail _ (.tail _ (.tail _ (.tail _ (.tail _ (.tail _ (.tail _ (.tail _ (.tail _ (.tail _ (.tail _ (.tail _ h))))))))))) | exact fun _ h => .tail _ (.tail _ (.tail _ (.tail _ (.tail _ (.tail _ (.tail _ (.tail _ (.tail _ (.tail _ (.tail _ (.tail _ (.tail _ h)))))))))))) | exact fun _ h => .tail _ (.tail _ (.tail _ (.tail _ (.tail _ (.tail _ (.tail _ (.tail _ (.tail _ (.tail _ (.tail _ (.tail _ (.tail _ (.tail _ h))))))))))))) | exact fun _ h => .tail _ (.tail _ (.tail _ (.tail _ (.tail _ (.tail _ (.tail _ (.tail _ (.tail _ (.tail _ (.tail _ (.tail _ (.tail _ (.tail _ (.tail _ h))))))))))))))) | exact Or.inl rfl); (case k6 => first | exact rfl | assumption); (case k7 => first | ((try dsimp only [Mine.ktrX]); (try simp only [depth_under_make, depth_under_kw, depth_in1, depth_deeper, depth_caller]); (try dsimp only [Mine.ktrX]); omega) | ((try dsimp only [Mine.ktrX] at *); ktr_room)); (case k8 => first | ((try dsimp only [Mine.ktrX]); (try simp only [units_in1, units_deeper, Around.mark_units, units_caller]); (try dsimp only [Mine.ktrX]); omega) | ((try dsimp only [Mine.ktrX] at *); ktr_units)); (case m1 => with_reducible assumption); (case m2 => with_reducible assumption); (case m3 => first | assumption | exact List.Mem.head _ | exact .tail _ (by assumption) | exact .tail _ (.head _) | exact .tail _ (.tail _ (by assumption)) | exact .tail _ (.tail _ (.head _)) | exact .tail _ (.tail _ (.tail _ (by assumption))) | exact .tail _ (.tail _ (.tail _ (.head _))) | exact .tail _ (.tail _ (.tail _ (.tail _ (by assumption)))) | exact .tail _ (.tail _ (.tail _ (.tail _ (.head _)))) | exact .tail _ (.tail _ (.tail _ (.tail _ (.tail _ (by assumption))))) | exact .tail _ (.tail _ (.tail _ (.tail _ (.tail _ (.head _))))) | exact .tail _ (.tail _ (.tail _ (.tail _ (.tail _ (.tail _ (by assumption)))))) | exact .tail _ (.tail _ (.tail _ (.tail _ (.tail _ (.tail _ (.head _)))))) | exact .tail _ (.tail _ (.tail _ (.tail _ (.tail _ (.tail _ (.tail _ (by assumption))))))) | exact .tail _ (.tail _ (.tail _ (.tail _ (.tail _ (.tail _ (.tail _ (.head _))))))) | k_mem); (case m4 => first | assumption | exact List.Mem.head _ | exact .tail _ (by assumption) | exact .tail _ (.head _) | exact .tail _ (.tail _ (by assumption)) | exact .tail _ (.tail _ (.head _)) | exact .tail _ (.tail _ (.tail _ (by assumption))) | exact .tail _ (.tail _ (.tail _ (.head _))) | exact .tail _ (.tail _ (.tail _ (.tail _ (by assumption)))) | exact .tail _ (.tail _ (.tail _ (.tail _ (.head _)))) | exact .tail _ (.tail _ (.tail _ (.tail _ (.tail _ (by assumption))))) | exact .tail _ (.tail _ (.tail _ (.tail _ (.tail _ (.head _))))) | exact .tail _ (.tail _ (.tail _ (.tail _ (.tail _ (.tail _ (by assumption)))))) | exact .tail _ (.tail _ (.tail _ (.tail _ (.tail _ (.tail _ (.head _)))))) | exact .tail _ (.tail _ (.tail _ (.tail _ (.tail _ (.tail _ (.tail _ (by assumption))))))) | exact .tail _ (.tail _ (.tail _ (.tail _ (.tail _ (.tail _ (.tail _ (.head _))))))) | k_mem); (all_goals skip); (first | with_reducible exact Mine.HypAll.b1 (by assumption) | with_reducible exact Mine.HypAll.b2 (by assumption) | with_reducible exact Mine.HypAll.c1 (by assumption) | with_reducible exact Mine.HypAll.c2 (by assumption) | with_reducible exact Mine.HypAll.m1 (by assumption) | with_reducible exact Mine.HypAll.m2 (by assumption) | with_reducible exact Mine.HypAll.m3 (by assumption) | with_reducible exact Mine.HypAll.m4 (by assumption) | with_reducible exact Mine.HypAll.l1 (by assumption) | with_reducible exact Mine.HypAll.l2 (by assumption) | with_reducible exact Mine.HypAll.n1 (by assumption) | with_reducible exact Mine.HypAll.n2 (by assumption) | with_reducible exact Mine.HypAll.s0 (by assumption) | with_reducible exact Mine.HypAll.sb (by assumption) | with_reducible exact Mine.HypAll.sb2 (by assumption) | with_reducible exact Mine.HypAll.x1 (by assumption) | with_reducible exact Mine.HypAll.x2 (by assumption) | with_reducible exact Mine.HypAll.x3 (by assumption) | with_reducible exact Mine.HypAll.x4 (by assumption) | with_reducible exact Mine.HypAll.x5 (by assumption) | with_reducible exact Mine.HypAll.x6 (by assumption) | with_reducible exact Mine.HypAll.y1 (by assumption) | with_reducible exact Mine.HypAll.y2 (by assumption) | with_reducible exact Mine.HypAll.y3 (by assumption) | with_reducible exact Mine.HypAll.y4 (by assumption) | with_reducible exact Mine.HypAll.y5 (by assumption) | with_reducible exact Mine.HypAll.y6 (by assumption) | with_reducible exact Mine.HypAll.y7 (by assumption) | with_reducible exact Mine.HypAll.z1 (by assumption) | with_reducible exact Mine.HypAll.z2 (by assumption) | with_reducible exact Mine.HypAll.z3 (by assumption) | with_reducible exact Mine.HypAll.z4 (by assumption) | with_reducible exact Mine.HypAll.z5 (by assumption) | with_reducible exact Mine.HypAll.e1 (by assumption) | decide | with_reducible exact PySem.IntMulOk.of_left (by decide) | assumption | omega | rotate_left); (first | with_reducible exact Mine.HypAll.b1 (by assumption) | with_reducible exact Mine.HypAll.b2 (by assumption) | with_reducible exact Mine.HypAll.c1 (by assumption) | with_reducible exact Mine.HypAll.c2 (by assumption) | with_reducible exact Mine.HypAll.m1 (by assumption) | with_reducible exact Mine.HypAll.m2 (by assumption) | with_reducible exact Mine.HypAll.m3 (by assumption) | with_reducible exact Mine.HypAll.m4 (by assumption) | with_reducible exact Mine.HypAll.l1 (by assumption) | with_reducible exact Mine.HypAll.l2 (by assumption) | with_reducible exact Mine.HypAll.n1 (by assumption) | with_reducible exact Mine.HypAll.n2 (by assumption) | with_reducible exact Mine.HypAll.s0 (by assumption) | with_reducible exact Mine.HypAll.sb (by assumption) | with_reducible exact Mine.HypAll.sb2 (by assumption) | with_reducible exact Mine.HypAll.x1 (by assumption) | with_reducible exact Mine.HypAll.x2 (by assumption) | with_reducible exact Mine.HypAll.x3 (by assumption) | with_reducible exact Mine.HypAll.x4 (by assumption) | with_reducible exact Mine.HypAll.x5 (by assumption) | with_reducible exact Mine.HypAll.x6 (by assumption) | with_reducible exact Mine.HypAll.y1 (by assumption) | with_reducible exact Mine.HypAll.y2 (by assumption) | with_reducible exact Mine.HypAll.y3 (by assumption) | with_reducible exact Mine.HypAll.y4 (by assumption) | with_reducible exact Mine.HypAll.y5 (by assumption) | with_reducible exact Mine.HypAll.y6 (by assumption) | with_reducible exact Mine.HypAll.y7 (by assumption) | with_reducible exact Mine.HypAll.z1 (by assumption) | with_reducible exact Mine.HypAll.z2 (by assumption) | with_reducible exact Mine.HypAll.z3 (by assumption) | with_reducible exact Mine.HypAll.z4 (by assumption) | with_reducible exact Mine.HypAll.z5 (by assumption) | with_reducible exact Mine.HypAll.e1 (by assumption) | decide | with_reducible exact PySem.IntMulOk.of_left (by decide) | assumption | omega | rotate_left); (first | with_reducible exact Mine.HypAll.b1 (by assumption) | with_reducible exact Mine.HypAll.b2 (by assumption) | with_reducible exact Mine.HypAll.c1 (by assumption) | with_reducible exact Mine.HypAll.c2 (by assumption) | with_reducible exact Mine.HypAll.m1 (by assumption) | with_reducible exact Mine.HypAll.m2 (by assumption) | with_reducible exact Mine.HypAll.m3 (by assumption) | with_reducible exact Mine.HypAll.m4 (by assumption) | with_reducible exact Mine.HypAll.l1 (by assumption) | with_reducible exact Mine.HypAll.l2 (by assumption) | with_reducible exact Mine.HypAll.n1 (by assumption) | with_reducible exact Mine.HypAll.n2 (by assumption) | with_reducible exact Mine.HypAll.s0 (by assumption) | with_reducible exact Mine.HypAll.sb (by assumption) | with_reducible exact Mine.HypAll.sb2 (by assumption) | with_reducible exact Mine.HypAll.x1 (by assumption) | with_reducible exact Mine.HypAll.x2 (by assumption) | with_reducible exact Mine.HypAll.x3 (by assumption) | with_reducible exact Mine.HypAll.x4 (by assumption) | with_reducible exact Mine.HypAll.x5 (by assumption) | with_reducible exact Mine.HypAll.x6 (by assumption) | with_reducible exact Mine.HypAll.y1 (by assumption) | with_reducible exact Mine.HypAll.y2 (by assumption) | with_reducible exact Mine.HypAll.y3 (by assumption) | with_reducible exact Mine.HypAll.y4 (by assumption) | with_reducible exact Mine.HypAll.y5 (by assumption) | with_reducible exact Mine.HypAll.y6 (by assumption) | with_reducible exact Mine.HypAll.y7 (by assumption) | with_reducible exact Mine.HypAll.z1 (by assumption) | with_reducible exact Mine.HypAll.z2 (by assumption) | with_reducible exact Mine.HypAll.z3 (by assumption) | with_reducible exact Mine.HypAll.z4 (by assumption) | with_reducible exact Mine.HypAll.z5 (by assumption) | with_reducible exact Mine.HypAll.e1 (by assumption) | decide | with_reducible exact PySem.IntMulOk.of_left (by decide) | assumption | omega | rotate_left); (first | with_reducible exact Mine.HypAll.b1 (by assumption) | with_reducible exact Mine.HypAll.b2 (by assumption) | with_reducible exact Mine.HypAll.c1 (by assumption) | with_reducible exact Mine.HypAll.c2 (by assumption) | with_reducible exact Mine.HypAll.m1 (by assumption) | with_reducible exact Mine.HypAll.m2 (by assumption) | with_reducible exact Mine.HypAll.m3 (by assumption) | with_reducible exact Mine.HypAll.m4 (by assumption) | with_reducible exact Mine.HypAll.l1 (by assumption) | with_reducible exact Mine.HypAll.l2 (by assumption) | with_reducible exact Mine.HypAll.n1 (by assumption) | with_reducible exact Mine.HypAll.n2 (by assumption) | with_reducible exact Mine.HypAll.s0 (by assumption) | with_reducible exact Mine.HypAll.sb (by assumption) | with_reducible exact Mine.HypAll.sb2 (by assumption) | with_reducible exact Mine.HypAll.x1 (by assumption) | with_reducible exact Mine.HypAll.x2 (by assumption) | with_reducible exact Mine.HypAll.x3 (by assumption) | with_reducible exact Mine.HypAll.x4 (by assumption) | with_reducible exact Mine.HypAll.x5 (by assumption) | with_reducible exact Mine.HypAll.x6 (by assumption) | with_reducible exact Mine.HypAll.y1 (by assumption) | with_reducible exact Mine.HypAll.y2 (by assumption) | with_reducible exact Mine.HypAll.y3 (by assumption) | with_reducible exact Mine.HypAll.y4 (by assumption) | with_reducible exact Mine.HypAll.y5 (by assumption) | with_reducible exact Mine.HypAll.y6 (by assumption) | with_reducible exact Mine.HypAll.y7 (by assumption) | with_reducible exact Mine.HypAll.z1 (by assumption) | with_reducible exact Mine.HypAll.z2 (by assumption) | with_reducible exact Mine.HypAll.z3 (by assumption) | with_reducible exact Mine.HypAll.z4 (by assumption) | with_reducible exact Mine.HypAll.z5 (by assumption) | with_reducible exact Mine.HypAll.e1 (by assumption) | decide | with_reducible exact PySem.IntMulOk.of_left (by decide) | assumption | omega | rotate_left); (first | with_reducible exact Mine.HypAll.b1 (by assumption) | with_reducible exact Mine.HypAll.b2 (by assumption) | with_reducible exact Mine.HypAll.c1 (by assumption) | with_reducible exact Mine.HypAll.c2 (by assumption) | with_reducible exact Mine.HypAll.m1 (by assumption) | with_reducible exact Mine.HypAll.m2 (by assumption) | with_reducible exact Mine.HypAll.m3 (by assumption) | with_reducible exact Mine.HypAll.m4 (by assumption) | with_reducible exact Mine.HypAll.l1 (by assumption) | with_reducible exact Mine.HypAll.l2 (by assumption) | with_reducible exact Mine.HypAll.n1 (by assumption) | with_reducible exact Mine.HypAll.n2 (by assumption) | with_reducible exact Mine.HypAll.s0 (by assumption) | with_reducible exact Mine.HypAll.sb (by assumption) | with_reducible exact Mine.HypAll.sb2 (by assumption) | with_reducible exact Mine.HypAll.x1 (by assumption) | with_reducible exact Mine.HypAll.x2 (by assumption) | with_reducible exact Mine.HypAll.x3 (by assumption) | with_reducible exact Mine.HypAll.x4 (by assumption) | with_reducible exact Mine.HypAll.x5 (by assumption) | with_reducible exact Mine.HypAll.x6 (by assumption) | with_reducible exact Mine.HypAll.y1 (by assumption) | with_reducible exact Mine.HypAll.y2 (by assumption) | with_reducible exact Mine.HypAll.y3 (by assumption) | with_reducible exact Mine.HypAll.y4 (by assumption) | with_reducible exact Mine.HypAll.y5 (by assumption) | with_reducible exact Mine.HypAll.y6 (by assumption) | with_reducible exact Mine.HypAll.y7 (by assumption) | with_reducible exact Mine.HypAll.z1 (by assumption) | with_reducible exact Mine.HypAll.z2 (by assumption) | with_reducible exact Mine.HypAll.z3 (by assumption) | with_reducible exact Mine.HypAll.z4 (by assumption) | with_reducible exact Mine.HypAll.z5 (by assumption) | with_reducible exact Mine.HypAll.e1 (by assumption) | decide | with_reducible exact PySem.IntMulOk.of_left (by decide) | assumption | omega | rotate_left); (first | with_reducible exact Mine.HypAll.b1 (by assumption) | with_reducible exact Mine.HypAll.b2 (by assumption) | with_reducible exact Mine.HypAll.c1 (by assumption) | with_reducible exact Mine.HypAll.c2 (by assumption) | with_reducible exact Mine.HypAll.m1 (by assumption) | with_reducible exact Mine.HypAll.m2 (by assumption) | with_reducible exact Mine.HypAll.m3 (by assumption) | with_reducible exact Mine.HypAll.m4 (by assumption) | with_reducible exact Mine.HypAll.l1 (by assumption) | with_reducible exact Mine.HypAll.l2 (by assumption) | with_reducible exact Mine.HypAll.n1 (by assumption) | with_reducible exact Mine.HypAll.n2 (by assumption) | with_reducible exact Mine.HypAll.s0 (by assumption) | with_reducible exact Mine.HypAll.sb (by assumption) | with_reducible exact Mine.HypAll.sb2 (by assumption) | with_reducible exact Mine.HypAll.x1 (by assumption) | with_reducible exact Mine.HypAll.x2 (by assumption) | with_reducible exact Mine.HypAll.x3 (by assumption) | with_reducible exact Mine.HypAll.x4 (by assumption) | with_reducible exact Mine.HypAll.x5 (by assumption) | with_reducible exact Mine.HypAll.x6 (by assumption) | with_reducible exact Mine.HypAll.y1 (by assumption) | with_reducible exact Mine.HypAll.y2 (by assumption) | with_reducible exact Mine.HypAll.y3 (by assumption) | with_reducible exact Mine.HypAll.y4 (by assumption) | with_reducible exact Mine.HypAll.y5 (by assumption) | with_reducible exact Mine.HypAll.y6 (by assumption) | with_reducible exact Mine.HypAll.y7 (by assumption) | with_reducible exact Mine.HypAll.z1 (by assumption) | with_reducible exact Mine.HypAll.z2 (by assumption) | with_reducible exact Mine.HypAll.z3 (by assumption) | with_reducible exact Mine.HypAll.z4 (by assumption) | with_reducible exact Mine.HypAll.z5 (by assumption) | with_reducible exact Mine.HypAll.e1 (by assumption) | decide | with_reducible exact PySem.IntMulOk.of_left (by decide) | assumption | omega | rotate_left)); intro D9 p9 h9 tk9 V9 F9 N9; (try dsimp only); (try k_fold)))
local macro_rules | `(tactic| walk_at "binaryOp Mult int int") => `(tactic| (refine PyProof.Rows.mul_int ?_ ?_; rotate_left; (first | with_reducible exact Mine.HypAll.b1 (by assumption) | with_reducible exact Mine.HypAll.b2 (by assumption) | with_reducible exact Mine.HypAll.c1 (by assumption) | with_reducible exact Mine.HypAll.c2 (by assumption) | with_reducible exact Mine.HypAll.m1 (by assumption) | with_reducible exact Mine.HypAll.m2 (by assumption) | with_reducible exact Mine.HypAll.m3 (by assumption) | with_reducible exact Mine.HypAll.m4 (by assumption) | with_reducible exact Mine.HypAll.l1 (by assumption) | with_reducible exact Mine.HypAll.l2 (by assumption) | with_reducible exact Mine.HypAll.n1 (by assumption) | with_reducible exact Mine.HypAll.n2 (by assumption) | with_reducible exact Mine.HypAll.s0 (by assumption) | with_reducible exact Mine.HypAll.sb (by assumption) | with_reducible exact Mine.HypAll.sb2 (by assumption) | with_reducible exact Mine.HypAll.x1 (by assumption) | with_reducible exact Mine.HypAll.x2 (by assumption) | with_reducible exact Mine.HypAll.x3 (by assumption) | with_reducible exact Mine.HypAll.x4 (by assumption) | with_reducible exact Mine.HypAll.x5 (by assumption) | with_reducible exact Mine.HypAll.x6 (by assumption) | with_reducible exact Mine.HypAll.y1 (by assumption) | with_reducible exact Mine.HypAll.y2 (by assumption) | with_reducible exact Mine.HypAll.y3 (by assumption) | with_reducible exact Mine.HypAll.y4 (by assumption) | with_reducible exact Mine.HypAll.y5 (by assumption) | with_reducible exact Mine.HypAll.y6 (by assumption) | with_reducible exact Mine.HypAll.y7 (by assumption) | with_reducible exact Mine.HypAll.z1 (by assumption) | with_reducible exact Mine.HypAll.z2 (by assumption) | with_reducible exact Mine.HypAll.z3 (by assumption) | with_reducible exact Mine.HypAll.z4 (by assumption) | with_reducible exact Mine.HypAll.z5 (by assumption) | with_reducible exact Mine.HypAll.e1 (by assumption) | decide | with_reducible exact PySem.IntMulOk.of_left (by decide) | assumption | omega | rotate_left); (try dsimp only)))
local macro_rules | `(tactic| walk_at "binaryOp Pow int int") => `(tactic| (refine PyProof.Rows.pow_int ?_ ?_ ?_; (first | with_reducible exact Mine.HypAll.b1 (by assumption) | with_reducible exact Mine.HypAll.b2 (by assumption) | with_reducible exact Mine.HypAll.c1 (by assumption) | with_reducible exact Mine.HypAll.c2 (by assumption) | with_reducible exact Mine.HypAll.m1 (by assumption) | with_reducible exact Mine.HypAll.m2 (by assumption) | with_reducible exact Mine.HypAll.m3 (by assumption) | with_reducible exact Mine.HypAll.m4 (by assumption) | with_reducible exact Mine.HypAll.l1 (by assumption) | with_reducible exact Mine.HypAll.l2 (by assumption) | with_reducible exact Mine.HypAll.n1 (by assumption) | with_reducible exact Mine.HypAll.n2 (by assumption) | with_reducible exact Mine.HypAll.s0 (by assumption) | with_reducible exact Mine.HypAll.sb (by assumption) | with_reducible exact Mine.HypAll.sb2 (by assumption) | with_reducible exact Mine.HypAll.x1 (by assumption) | with_reducible exact Mine.HypAll.x2 (by assumption) | with_reducible exact Mine.HypAll.x3 (by assumption) | with_reducible exact Mine.HypAll.x4 (by assumption) | with_reducible exact Mine.HypAll.x5 (by assumption) | with_reducible exact Mine.HypAll.x6 (by assumption) | with_reducible exact Mine.HypAll.y1 (by assumption) | with_reducible exact Mine.HypAll.y2 (by assumption) | with_reducible exact Mine.HypAll.y3 (by assumption) | with_reducible exact Mine.HypAll.y4 (by assumption) | with_reducible exact Mine.HypAll.y5 (by assumption) | with_reducible exact Mine.HypAll.y6 (by assumption) | with_reducible exact Mine.HypAll.y7 (by assumption) | with_reducible exact Mine.HypAll.z1 (by assumption) | with_reducible exact Mine.HypAll.z2 (by assumption) | with_reducible exact Mine.HypAll.z3 (by assumption) | with_reducible exact Mine.HypAll.z4 (by assumption) | with_reducible exact Mine.HypAll.z5 (by assumption) | with_reducible exact Mine.HypAll.e1 (by assumption) | decide | with_reducible exact PySem.IntMulOk.of_left (by decide) | assumption | omega | rotate_left); (first | with_reducible exact Mine.HypAll.b1 (by assumption) | with_reducible exact Mine.HypAll.b2 (by assumption) | with_reducible exact Mine.HypAll.c1 (by assumption) | with_reducible exact Mine.HypAll.c2 (by assumption) | with_reducible exact Mine.HypAll.m1 (by assumption) | with_reducible exact Mine.HypAll.m2 (by assumption) | with_reducible exact Mine.HypAll.m3 (by assumption) | with_reducible exact Mine.HypAll.m4 (by assumption) | with_reducible exact Mine.HypAll.l1 (by assumption) | with_reducible exact Mine.HypAll.l2 (by assumption) | with_reducible exact Mine.HypAll.n1 (by assumption) | with_reducible exact Mine.HypAll.n2 (by assumption) | with_reducible exact Mine.HypAll.s0 (by assumption) | with_reducible exact Mine.HypAll.sb (by assumption) | with_reducible exact Mine.HypAll.sb2 (by assumption) | with_reducible exact Mine.HypAll.x1 (by assumption) | with_reducible exact Mine.HypAll.x2 (by assumption) | with_reducible exact Mine.HypAll.x3 (by assumption) | with_reducible exact Mine.HypAll.x4 (by assumption) | with_reducible exact Mine.HypAll.x5 (by assumption) | with_reducible exact Mine.HypAll.x6 (by assumption) | with_reducible exact Mine.HypAll.y1 (by assumption) | with_reducible exact Mine.HypAll.y2 (by assumption) | with_reducible exact Mine.HypAll.y3 (by assumption) | with_reducible exact Mine.HypAll.y4 (by assumption) | with_reducible exact Mine.HypAll.y5 (by assumption) | with_reducible exact Mine.HypAll.y6 (by assumption) | with_reducible exact Mine.HypAll.y7 (by assumption) | with_reducible exact Mine.HypAll.z1 (by assumption) | with_reducible exact Mine.HypAll.z2 (by assumption) | with_reducible exact Mine.HypAll.z3 (by assumption) | with_reducible exact Mine.HypAll.z4 (by assumption) | with_reducible exact Mine.HypAll.z5 (by assumption) | with_reducible exact Mine.HypAll.e1 (by assumption) | decide | with_reducible exact PySem.IntMulOk.of_left (by decide) | assumption | omega | rotate_left); (try dsimp only)))
namespace Mine
open PySem.Builtin.Int (intBits)
local macro_rules | `(tactic| walk_at "compareOp NotEq ref ref") => `(tactic| (k_here; (with_reducible show wpAny _ _ (compareOp CmpOp.NotEq (Value.ref _) (Value.ref _)) _ _ _); k_dflt (refine Mine.ne4 (by first | exact Mine.IsT4.of_V (by assumption) (by k_asm) (by first | assumption | exact List.Mem.head _ | exact .tail _ (by assumption) | exact .tail _ (.head _) | exact .tail _ (.tail _ (by assumption)) | exact .tail _ (.tail _ (.head _)) | exact .tail _ (.tail _ (.tail _ (by assumption))) | exact .tail _ (.tail _ (.tail _ (.head _))) | exact .tail _ (.tail _ (.tail _ (.tail _ (by assumption)))) | exact .tail _ (.tail _ (.tail _ (.tail _ (.head _)))) | exact .tail _ (.tail _ (.tail _ (.tail _ (.tail _ (by assumption))))) | exact .tail _ (.tail _ (.tail _ (.tail _ (.tail _ (.head _))))) | exact .tail _ (.tail _ (.tail _ (.tail _ (.tail _ (.tail _ (by assumption)))))) | exact .tail _ (.tail _ (.tail _ (.tail _ (.tail _ (.tail _ (.head _)))))) | exact .tail _ (.tail _ (.tail _ (.tail _ (.tail _ (.tail _ (.tail _ (by assumption))))))) | exact .tail _ (.tail _ (.tail _ (.tail _ (.tail _ (.tail _ (.tail _ (.head _))))))) | k_mem) (by k_in) | exact Mine.IsT4.of_news (by k_asm) (by k_mem)) (by first | exact Mine.IsT4.of_V (by assumption) (by k_asm) (by first | assumption | exact List.Mem.head _ | exact .tail _ (by assumption) | exact .tail _ (.head _) | exact .tail _ (.tail _ (by assumption)) | exact .tail _ (.tail _ (.head _)) | exact .tail _ (.tail _ (.tail _ (by assumption))) | exact .tail _ (.tail _ (.tail _ (.head _))) | exact .tail _ (.tail _ (.tail _ (.tail _ (by assumption)))) | exact .tail _ (.tail _ (.tail _ (.tail _ (.head _)))) | exact .tail _ (.tail _ (.tail _ (.tail _ (.tail _ (by assumption))))) | exact .tail _ (.tail _ (.tail _ (.tail _ (.tail _ (.head _))))) | exact .tail _ (.tail _ (.tail _ (.tail _ (.tail _ (.tail _ (by assumption)))))) | exact .tail _ (.tail _ (.tail _ (.tail _ (.tail _ (.tail _ (.head _)))))) | exact .tail _ (.tail _ (.tail _ (.tail _ (.tail _ (.tail _ (.tail _ (by assumption))))))) | exact .tail _ (.tail _ (.tail _ (.tail _ (.tail _ (.tail _ (.tail _ (.head _))))))) | k_mem) (by k_in) | exact Mine.IsT4.of_news (by k_asm) (by k_mem)) (by ktr_units) ?_)))
local macro_rules | `(tactic| walk_at "compareOp Eq ref ref") => `(tactic| (k_here; (with_reducible show wpAny _ _ (compareOp CmpOp.Eq (Value.ref _) (Value.ref _)) _ _ _); k_dflt (refine Mine.eq4 (by first | exact Mine.IsT4.of_V (by assumption) (by k_asm) (by first | assumption | exact List.Mem.head _ | exact .tail _ (by assumption) | exact .tail _ (.head _) | exact .tail _ (.tail _ (by assumption)) | exact .tail _ (.tail _ (.head _)) | exact .tail _ (.tail _ (.tail _ (by assumption))) | exact .tail _ (.tail _ (.tail _ (.head _))) | exact .tail _ (.tail _ (.tail _ (.tail _ (by assumption)))) | exact .tail _ (.tail _ (.tail _ (.tail _ (.head _)))) | exact .tail _ (.tail _ (.tail _ (.tail _ (.tail _ (by assumption))))) | exact .tail _ (.tail _ (.tail _ (.tail _ (.tail _ (.head _))))) | exact .tail _ (.tail _ (.tail _ (.tail _ (.tail _ (.tail _ (by assumption)))))) | exact .tail _ (.tail _ (.tail _ (.tail _ (.tail _ (.tail _ (.head _)))))) | exact .tail _ (.tail _ (.tail _ (.tail _ (.tail _ (.tail _ (.tail _ (by assumption))))))) | exact .tail _ (.tail _ (.tail _ (.tail _ (.tail _ (.tail _ (.tail _ (.head _))))))) | k_mem) (by k_in) | exact Mine.IsT4.of_news (by k_asm) (by k_mem)) (by first | exact Mine.IsT4.of_V (by assumption) (by k_asm) (by first | assumption | exact List.Mem.head _ | exact .tail _ (by assumption) | exact .tail _ (.head _) | exact .tail _ (.tail _ (by assumption)) | exact .tail _ (.tail _ (.head _)) | exact .tail _ (.tail _ (.tail _ (by assumption))) | exact .tail _ (.tail _ (.tail _ (.head _))) | exact .tail _ (.tail _ (.tail _ (.tail _ (by assumption)))) | exact .tail _ (.tail _ (.tail _ (.tail _ (.head _)))) | exact .tail _ (.tail _ (.tail _ (.tail _ (.tail _ (by assumption))))) | exact .tail _ (.tail _ (.tail _ (.tail _ (.tail _ (.head _))))) | exact .tail _ (.tail _ (.tail _ (.tail _ (.tail _ (.tail _ (by assumption)))))) | exact .tail _ (.tail _ (.tail _ (.tail _ (.tail _ (.tail _ (.head _)))))) | exact .tail _ (.tail _ (.tail _ (.tail _ (.tail _ (.tail _ (.tail _ (by assumption))))))) | exact .tail _ (.tail _ (.tail _ (.tail _ (.tail _ (.tail _ (.tail _ (.head _))))))) | k_mem) (by k_in) | exact Mine.IsT4.of_news (by k_asm) (by k_mem)) (by ktr_units) ?_)))
local macro_rules | `(tactic| walk_at "subscriptTail Name Constant ref int") => `(tactic| (k_here; (with_reducible show wpAny _ _ (subscriptTail _ _ (Value.ref _) (Value.int _ _)) _ _ _); k_dflt (refine Mine.item4 (Mine.IsT4.of_V (by assumption) (by k_asm) (by first | assumption | exact List.Mem.head _ | exact .tail _ (by assumption) | exact .tail _ (.head _) | exact .tail _ (.tail _ (by assumption)) | exact .tail _ (.tail _ (.head _)) | exact .tail _ (.tail _ (.tail _ (by assumption))) | exact .tail _ (.tail _ (.tail _ (.head _))) | exact .tail _ (.tail _ (.tail _ (.tail _ (by assumption)))) | exact .tail _ (.tail _ (.tail _ (.tail _ (.head _)))) | exact .tail _ (.tail _ (.tail _ (.tail _ (.tail _ (by assumption))))) | exact .tail _ (.tail _ (.tail _ (.tail _ (.tail _ (.head _))))) | exact .tail _ (.tail _ (.tail _ (.tail _ (.tail _ (.tail _ (by assumption)))))) | exact .tail _ (.tail _ (.tail _ (.tail _ (.tail _ (.tail _ (.head _)))))) | exact .tail _ (.tail _ (.tail _ (.tail _ (.tail _ (.tail _ (.tail _ (by assumption))))))) | exact .tail _ (.tail _ (.tail _ (.tail _ (.tail _ (.tail _ (.tail _ (.head _))))))) | k_mem) (by k_in)) (by first | exact .inl ⟨rfl, rfl⟩ | exact .inr (.inl ⟨rfl, rfl⟩) | exact .inr (.inr (.inl ⟨rfl, rfl⟩)) | exact .inr (.inr (.inr ⟨rfl, rfl⟩))) ?_ (by with_unfolding_all rfl)); intro t9))
theorem draw_range (a : Int) {m c : Int} (hm : 0 < m) : -c ≤ a.fmod m - c ∧ a.fmod m - c ≤ m - 1 - c := by
  have h0 := Int.fmod_nonneg_of_pos a hm
  have h1 := Int.fmod_lt_of_pos a hm
  omega
set_option maxRecDepth 100000 in
set_option maxHeartbeats 8000000 in
theorem c_hyp (wy : Way) (w : World) (news : List (Addr × Obj)) (l : Addr) (ws : List Value) (n : Nat) (ns : List Int) (z : Tok) (hl : (l, W.listOf ws.toArray n) ∈ news) (hI : IntsAre ws ns) (hlen : ns.length ≤ 1000) :
    Ctr w 176 20 news [.ref l, .str wy.str z] (RetB news true) := by
  have HA := hyp_all wy ((numv ns 7).fmod 2001 - 1000) ((numv ns 9).fmod 21 - 10) ((numv ns 8).fmod 2001 - 1000) ((numv ns 10).fmod 21 - 10) (4 + (numv ns 11).fmod 50)
    (draw_range _ (by decide)) (draw_range _ (by decide)) (draw_range _ (by decide)) (draw_range _ (by decide)) (by have := draw_range (numv ns 11) (m := 50) (c := 0) (by decide); omega)
  dsimp only [rawL, rawS] at HA
  w_top off
  dsimp only [Ctr, RetI, RetT2, RetT4, RetB, RetZ]
  k_fill
  intro pp loose mean mg mb dp un gd cn cs a ccd cl outer A₀ base h₀ L m s hxx Q E B F X N T hk hdp hu hcalm hret
  refine wpAny_call ?_
  k_dflt (refine' code_def ?k1 ?k2 ?k3 ?k4 ?k5 ?kA ?kF ?kK ?k6 ?k7 ?k8 ?k9 ?kB ?_ ?c2 ?c3 ?c4 ?c5; (case kA => exact rfl); (case kF => exact rfl); (case kK => assumption); (case k1 => k_asm); (case k2 => k_asm); (case k3 => k_asm); (case k4 => k_asm); (case k5 => k_asm); (case k6 => k_is); (case k7 => k_is); (case k8 => first | ((try dsimp only [Mine.ktrX]); (try simp only [depth_under_make, depth_under_kw, depth_in1, depth_deeper, depth_caller]); (try dsimp only [Mine.ktrX]); omega) | ((try dsimp only [Mine.ktrX] at *); ktr_room)); (case k9 => first | exact BindsTo.of_eq rfl | exact binds_K (by k_in) rfl (by k_is) rfl rfl rfl); (case c5 => decide); (case kB => exact locs rfl); (case c2 => exact rfl); (case c3 => exact rfl); (case c4 => exact rfl); k_whole; intro g' L' h' FG' F' N' B' X' T'; (try dsimp only); (try k_lift B'); (try k_fold))
  k_with_none
  repeat' (first | (k_unfold; (try dsimp only)) | walk1 | (dsimp only; walk1) | (leave1; try dsimp only) | fail "no step")
  all_goals first
    | (exfalso; first
        | exact HypAll.e_odd (by assumption) (by assumption) (by assumption)
        | exact HypAll.e_bits (by assumption) (by assumption) (by assumption)
        | exact HypAll.e_le (by assumption) (by assumption) (by assumption)
        | exact HypAll.e_down (by assumption) (by assumption) (by assumption) (by assumption)
        | exact HypAll.e_comm (by assumption) (by assumption))
    | (rename Fr _ _ _ _ => lF; rename News _ _ _ _ => lN; first
        | exact retB_end hret (HA.small (by assumption)) lF lN (by first | exact fun _ h => h | exact fun _ h => .tail _ h | exact fun _ h => .tail _ (.tail _ h) | exact fun _ h => .tail _ (.tail _ (.tail _ h)) | exact fun _ h => .tail _ (.tail _ (.tail _ (.tail _ h))) | exact fun _ h => .tail _ (.tail _ (.tail _ (.tail _ (.tail _ h)))) | exact fun _ h => .tail _ (.tail _ (.tail _ (.tail _ (.tail _ (.tail _ h))))) | exact fun _ h => .tail _ (.tail _ (.tail _ (.tail _ (.tail _ (.tail _ (.tail _ h)))))) | exact fun _ h => .tail _ (.tail _ (.tail _ (.tail _ (.tail _ (.tail _ (.tail _ (.tail _ h))))))) | exact fun _ h => .tail _ (.tail _ (.tail _ (.tail _ (.tail _ (.tail _ (.tail _ (.tail _ (.tail _ h)))))))) | exact fun _ h => .tail _ (.tail _ (.tail _ (.tail _ (.tail _ (.tail _ (.tail _ (.tail _ (.tail _ (.tail _ h))))))))) | exact fun _ h => .tail _ (.tail _ (.tail _ (.tail _ (.tail _ (.tail _ (.tail _ (.tail _ (.tail _ (.tail _ (.tail _ h)))))))))) | exact fun _ h => .tail _ (.tail _ (.tail _ (.tail _ (.tail _ (.tail _ (.tail _ (.tail _ (.tail _ (.tail _ (.tail _ (.tail _ h))))))))))) | exact fun _ h => .tail _ (.tail _ (.tail _ (.tail _ (.tail _ (.tail _ (.tail _ (.tail _ (.tail _ (.tail _ (.tail _ (.tail _ (.tail _ h)))))))))))) | exact fun _ h => .tail _ (.tail _ (.tail _ (.tail _ (.tail _ (.tail _ (.tail _ (.tail _ (.tail _ (.tail _ (.tail _ (.tail _ (.tail _ (.tail _ h))))))))))))) | exact fun _ h => .tail _ (.tail _ (.tail _ (.tail _ (.tail _ (.tail _ (.tail _ (.tail _ (.tail _ (.tail _ (.tail _ (.tail _ (.tail _ (.tail _ (.tail _ h)))))))))))))))
        | exact retB_end hret (HA.dlow (by assumption)) lF lN (by first | exact fun _ h => h | exact fun _ h => .tail _ h | exact fun _ h => .tail _ (.tail _ h) | exact fun _ h => .tail _ (.tail _ (.tail _ h)) | exact fun _ h => .tail _ (.tail _ (.tail _ (.tail _ h))) | exact fun _ h => .tail _ (.tail _ (.tail _ (.tail _ (.tail _ h)))) | exact fun _ h => .tail _ (.tail _ (.tail _ (.tail _ (.tail _ (.tail _ h))))) | exact fun _ h => .tail _ (.tail _ (.tail _ (.tail _ (.tail _ (.tail _ (.tail _ h)))))) | exact fun _ h => .tail _ (.tail _ (.tail _ (.tail _ (.tail _ (.tail _ (.tail _ (.tail _ h))))))) | exact fun _ h => .tail _ (.tail _ (.tail _ (.tail _ (.tail _ (.tail _ (.tail _ (.tail _ (.tail _ h)))))))) | exact fun _ h => .tail _ (.tail _ (.tail _ (.tail _ (.tail _ (.tail _ (.tail _ (.tail _ (.tail _ (.tail _ h))))))))) | exact fun _ h => .tail _ (.tail _ (.tail _ (.tail _ (.tail _ (.tail _ (.tail _ (.tail _ (.tail _ (.tail _ (.tail _ h)))))))))) | exact fun _ h => .tail _ (.tail _ (.tail _ (.tail _ (.tail _ (.tail _ (.tail _ (.tail _ (.tail _ (.tail _ (.tail _ (.tail _ h))))))))))) | exact fun _ h => .tail _ (.tail _ (.tail _ (.tail _ (.tail _ (.tail _ (.tail _ (.tail _ (.tail _ (.tail _ (.tail _ (.tail _ (.tail _ h)))))))))))) | exact fun _ h => .tail _ (.tail _ (.tail _ (.tail _ (.tail _ (.tail _ (.tail _ (.tail _ (.tail _ (.tail _ (.tail _ (.tail _ (.tail _ (.tail _ h))))))))))))) | exact fun _ h => .tail _ (.tail _ (.tail _ (.tail _ (.tail _ (.tail _ (.tail _ (.tail _ (.tail _ (.tail _ (.tail _ (.tail _ (.tail _ (.tail _ (.tail _ h)))))))))))))))
        | exact retB_end hret (HA.dhigh (by assumption)) lF lN (by first | exact fun _ h => h | exact fun _ h => .tail _ h | exact fun _ h => .tail _ (.tail _ h) | exact fun _ h => .tail _ (.tail _ (.tail _ h)) | exact fun _ h => .tail _ (.tail _ (.tail _ (.tail _ h))) | exact fun _ h => .tail _ (.tail _ (.tail _ (.tail _ (.tail _ h)))) | exact fun _ h => .tail _ (.tail _ (.tail _ (.tail _ (.tail _ (.tail _ h))))) | exact fun _ h => .tail _ (.tail _ (.tail _ (.tail _ (.tail _ (.tail _ (.tail _ h)))))) | exact fun _ h => .tail _ (.tail _ (.tail _ (.tail _ (.tail _ (.tail _ (.tail _ (.tail _ h))))))) | exact fun _ h => .tail _ (.tail _ (.tail _ (.tail _ (.tail _ (.tail _ (.tail _ (.tail _ (.tail _ h)))))))) | exact fun _ h => .tail _ (.tail _ (.tail _ (.tail _ (.tail _ (.tail _ (.tail _ (.tail _ (.tail _ (.tail _ h))))))))) | exact fun _ h => .tail _ (.tail _ (.tail _ (.tail _ (.tail _ (.tail _ (.tail _ (.tail _ (.tail _ (.tail _ (.tail _ h)))))))))) | exact fun _ h => .tail _ (.tail _ (.tail _ (.tail _ (.tail _ (.tail _ (.tail _ (.tail _ (.tail _ (.tail _ (.tail _ (.tail _ h))))))))))) | exact fun _ h => .tail _ (.tail _ (.tail _ (.tail _ (.tail _ (.tail _ (.tail _ (.tail _ (.tail _ (.tail _ (.tail _ (.tail _ (.tail _ h)))))))))))) | exact fun _ h => .tail _ (.tail _ (.tail _ (.tail _ (.tail _ (.tail _ (.tail _ (.tail _ (.tail _ (.tail _ (.tail _ (.tail _ (.tail _ (.tail _ h))))))))))))) | exact fun _ h => .tail _ (.tail _ (.tail _ (.tail _ (.tail _ (.tail _ (.tail _ (.tail _ (.tail _ (.tail _ (.tail _ (.tail _ (.tail _ (.tail _ (.tail _ h))))))))))))))))
end Mine

end
namespace Mine
open PySem PyProof.Rows PySem.W
/-- the end of the law's choice of a number -/
def IfEnd (h₀ : Heap) (L : Addr) (m : Str → Option Value) (news : List (Addr × Obj)) (most : Int) (s₁ : Shared) (f : Flow) (s₂ : Shared) : Prop :=
  f = .next ∧ ∃ h' tk W P tW tP, s₂ = { s₁ with heap := h', toks := tk } ∧ WAll W P most ∧ Fr h₀ L h' (fun y => if y = Str.ofString "whole" then some (.int W tW) else if y = Str.ofString "power" then some (.int P tP) else m y) ∧ News h₀ L h' news
theorem if_end {h₀ h' : Heap} {L : Addr} {m m' : Str → Option Value} {news news' : List (Addr × Obj)} {most W P : Int} {tW tP : Tok} {s₁ : Shared} {tk : Nat} (F : Fr h₀ L h' m') (N : News h₀ L h' news') (hs : ∀ p ∈ news, p ∈ news')
    (h1 : m' (Str.ofString "whole") = some (.int W tW)) (h2 : m' (Str.ofString "power") = some (.int P tP)) (h3 : ∀ y, y ≠ Str.ofString "whole" → y ≠ Str.ofString "power" → m' y = m y) (hw : WAll W P most) : IfEnd h₀ L m news most s₁ .next { s₁ with heap := h', toks := tk } := by
  have e : m' = (fun y => if y = Str.ofString "whole" then some (.int W tW) else if y = Str.ofString "power" then some (.int P tP) else m y) := by
    funext y
    by_cases e1 : y = Str.ofString "whole"
    · rw [if_pos e1, e1, h1]
    · rw [if_neg e1]
      by_cases e2 : y = Str.ofString "power"
      · rw [if_pos e2, e2, h2]
      · rw [if_neg e2, h3 y e1 e2]
  rw [e] at F
  exact ⟨rfl, h', tk, W, P, tW, tP, rfl, hw, F, fun p hp => N p (hs p hp)⟩
structure IfMark : Prop where
  one : True
theorem if_cut {M : Model} {A : Around} {E : Value → Shared → Prop} {s : Shared} {t : Sem Flow} {Q : Flow → Shared → Prop} {h₀ : Heap} {L : Addr} {m : Str → Option Value} {news : List (Addr × Obj)} {most : Int} {tm : Tok} (F : Fr h₀ L s.heap m) (N : News h₀ L s.heap news) (hm : m (Str.ofString "most") = some (.int most tm))
    (h1 : IfMark → wpAny M A t (IfEnd h₀ L m news most s) E s)
    (h2 : ∀ h' tk W P tW tP, WAll W P most → Fr h₀ L h' (fun y => if y = Str.ofString "whole" then some (.int W tW) else if y = Str.ofString "power" then some (.int P tP) else m y) → News h₀ L h' news → Q .next { s with heap := h', toks := tk }) : wpAny M A t Q E s := by
  refine wpAny_mono (h1 ⟨trivial⟩) (fun f s₂ h => ?_) fun _ _ x => x
  obtain ⟨rfl, h', tk, W, P, tW, tP, rfl, hw, F', N'⟩ := h
  exact h2 h' tk W P tW tP hw F' N'
end Mine

section
local macro_rules | `(tactic| walk_at "none 0") => `(tactic| fail)
local macro_rules | `(tactic| walk_at "none 1") => `(tactic| fail)
local macro_rules | `(tactic| walk_at "none 2") => `(tactic| fail)
local macro_rules | `(tactic| walk_at "none 3") => `(tactic| fail)
local macro_rules | `(tactic| walk_at "binaryOp LShift int int") => `(tactic| (refine PyProof.Rows.lshift_int ?_ ?_ ?_; rotate_left 2))
local macro_rules | `(tactic| walk_at "binaryOp FloorDiv int int") => `(tactic| (refine PyProof.Rows.floordiv_int (Mine.ninv_pos (by assumption)) ?_ (Or.inl (PyProof.noPylong_of_log2 (Mine.ninv_log (by assumption))))))
local macro_rules | `(tactic| walk_at "binaryOp Mult int int") => `(tactic| (refine PyProof.Rows.mul_int ?_ ?_; (try dsimp only)))
local macro_rules | `(tactic| walk_at "binaryOp Pow int int") => `(tactic| (refine PyProof.Rows.pow_int ?_ ?_ ?_; rotate_left 2; (try dsimp only)))
local macro_rules | `(tactic| walk_at "execs cons") => `(tactic| (with_reducible (refine Mine.gen_toks ?_; intro tk; refine wpAny_execs_cons ?_); (try dsimp only)))
local macro_rules | `(tactic| walk_at "execs nil") => `(tactic| (with_reducible (refine Mine.gen_toks ?_; intro tk; refine wpAny_execs_nil ?_); (try dsimp only)))
local macro_rules | `(tactic| walk_at "unpackItems ref") => `(tactic| (k_here; k_dflt (refine' Mine.unpack_calm ?kA ?kC ?k1 ?k2 ?k3 ?k5 ?_; (case kA => exact rfl); (case k1 => k_asm); (case k2 => k_asm); (case kC => first | exact Mine.CalmN.at (by assumption) (by k_asm) (by first | exact fun _ h => h | exact fun _ h => .tail _ h | exact fun _ h => .tail _ (.tail _ h) | exact fun _ h => .tail _ (.tail _ (.tail _ h)) | exact fun _ h => .tail _ (.tail _ (.tail _ (.tail _ h))) | exact fun _ h => .tail _ (.tail _ (.tail _ (.tail _ (.tail _ h)))) | exact fun _ h => .tail _ (.tail _ (.tail _ (.tail _ (.tail _ (.tail _ h))))) | exact fun _ h => .tail _ (.tail _ (.tail _ (.tail _ (.tail _ (.tail _ (.tail _ h)))))) | exact fun _ h => .tail _ (.tail _ (.tail _ (.tail _ (.tail _ (.tail _ (.tail _ (.tail _ h))))))) | exact fun _ h => .tail _ (.tail _ (.tail _ (.tail _ (.tail _ (.tail _ (.tail _ (.tail _ (.tail _ h)))))))) | exact fun _ h => .tail _ (.tail _ (.tail _ (.tail _ (.tail _ (.tail _ (.tail _ (.tail _ (.tail _ (.tail _ h))))))))) | exact fun _ h => .tail _ (.tail _ (.tail _ (.tail _ (.tail _ (.tail _ (.tail _ (.tail _ (.tail _ (.tail _ (.tail _ h)))))))))) | exact fun _ h => .tail _ (.tail _ (.tail _ (.tail _ (.tail _ (.tail _ (.tail _ (.tail _ (.tail _ (.tail _ (.tail _ (.tail _ h))))))))))) | exact fun _ h => .tail _ (.tail _ (.tail _ (.tail _ (.tail _ (.tail _ (.tail _ (.tail _ (.tail _ (.tail _ (.tail _ (.tail _ (.tail _ h)))))))))))) | exact fun _ h => .tail _ (.tail _ (.tail _ (.tail _ (.tail _ (.tail _ (.tail _ (.tail _ (.tail _ (.tail _ (.tail _ (.tail _ (.tail _ (.tail _ h))))))))))))) | exact fun _ h => .tail _ (.tail _ (.tail _ (.tail _ (.tail _ (.tail _ (.tail _ (.tail _ (.tail _ (.tail _ (.tail _ (.tail _ (.tail _ (.tail _ (.tail _ h))))))))))))))) | exact Or.inl rfl); (case k3 => kun_tup); (case k5 => exact rfl); k_whole); intro h' F' N'; (try k_sweep)))
local macro_rules | `(tactic| walk_at "assign Tuple") => `(tactic| (k_here; (with_reducible show wpAny _ _ (assign (Expr.Tuple _ _ _) _ (Value.ref _)) _ _ _); k_dflt (refine' Mine.assign_calm ?kA ?kC ?k1 ?k2 ?k3 ?k5 ?k6 ?_; (case kA => exact rfl); (case k1 => k_asm); (case k2 => k_asm); (case kC => first | exact Mine.CalmN.at (by assumption) (by k_asm) (by first | exact fun _ h => h | exact fun _ h => .tail _ h | exact fun _ h => .tail _ (.tail _ h) | exact fun _ h => .tail _ (.tail _ (.tail _ h)) | exact fun _ h => .tail _ (.tail _ (.tail _ (.tail _ h))) | exact fun _ h => .tail _ (.tail _ (.tail _ (.tail _ (.tail _ h)))) | exact fun _ h => .tail _ (.tail _ (.tail _ (.tail _ (.tail _ (.tail _ h))))) | exact fun _ h => .tail _ (.tail _ (.tail _ (.tail _ (.tail _ (.tail _ (.tail _ h)))))) | exact fun _ h => .tail _ (.tail _ (.tail _ (.tail _ (.tail _ (.tail _ (.tail _ (.tail _ h))))))) | exact fun _ h => .tail _ (.tail _ (.tail _ (.tail _ (.tail _ (.tail _ (.tail _ (.tail _ (.tail _ h)))))))) | exact fun _ h => .tail _ (.tail _ (.tail _ (.tail _ (.tail _ (.tail _ (.tail _ (.tail _ (.tail _ (.tail _ h))))))))) | exact fun _ h => .tail _ (.tail _ (.tail _ (.tail _ (.tail _ (.tail _ (.tail _ (.tail _ (.tail _ (.tail _ (.tail _ h)))))))))) | exact fun _ h => .tail _ (.tail _ (.tail _ (.tail _ (.tail _ (.tail _ (.tail _ (.tail _ (.tail _ (.tail _ (.tail _ (.tail _ h))))))))))) | exact fun _ h => .tail _ (.tail _ (.tail _ (.tail _ (.tail _ (.tail _ (.tail _ (.tail _ (.tail _ (.tail _ (.tail _ (.tail _ (.tail _ h)))))))))))) | exact fun _ h => .tail _ (.tail _ (.tail _ (.tail _ (.tail _ (.tail _ (.tail _ (.tail _ (.tail _ (.tail _ (.tail _ (.tail _ (.tail _ (.tail _ h))))))))))))) | exact fun _ h => .tail _ (.tail _ (.tail _ (.tail _ (.tail _ (.tail _ (.tail _ (.tail _ (.tail _ (.tail _ (.tail _ (.tail _ (.tail _ (.tail _ (.tail _ h))))))))))))))) | exact Or.inl rfl); (case k3 => kun_tup); (case k5 => exact rfl); (case k6 => exact rfl); k_whole); intro h' F' N'; (try k_sweep)))
local macro_rules | `(tactic| walk_at "call builtin:min") => `(tactic| (k_here; (with_reducible show wpAny _ _ (call (Value.builtin _) [Value.int _ _, Value.int _ _]) _ _ _); k_dflt (refine' Mine.min_calm ?kA ?kC ?k1 ?k2 ?_; (case kA => exact rfl); (case k1 => k_asm); (case k2 => k_asm); (case kC => first | exact Mine.CalmN.at (by assumption) (by k_asm) (by first | exact fun _ h => h | exact fun _ h => .tail _ h | exact fun _ h => .tail _ (.tail _ h) | exact fun _ h => .tail _ (.tail _ (.tail _ h)) | exact fun _ h => .tail _ (.tail _ (.tail _ (.tail _ h))) | exact fun _ h => .tail _ (.tail _ (.tail _ (.tail _ (.tail _ h)))) | exact fun _ h => .tail _ (.tail _ (.tail _ (.tail _ (.tail _ (.tail _ h))))) | exact fun _ h => .tail _ (.tail _ (.tail _ (.tail _ (.tail _ (.tail _ (.tail _ h)))))) | exact fun _ h => .tail _ (.tail _ (.tail _ (.tail _ (.tail _ (.tail _ (.tail _ (.tail _ h))))))) | exact fun _ h => .tail _ (.tail _ (.tail _ (.tail _ (.tail _ (.tail _ (.tail _ (.tail _ (.tail _ h)))))))) | exact fun _ h => .tail _ (.tail _ (.tail _ (.tail _ (.tail _ (.tail _ (.tail _ (.tail _ (.tail _ (.tail _ h))))))))) | exact fun _ h => .tail _ (.tail _ (.tail _ (.tail _ (.tail _ (.tail _ (.tail _ (.tail _ (.tail _ (.tail _ (.tail _ h)))))))))) | exact fun _ h => .tail _ (.tail _ (.tail _ (.tail _ (.tail _ (.tail _ (.tail _ (.tail _ (.tail _ (.tail _ (.tail _ (.tail _ h))))))))))) | exact fun _ h => .tail _ (.tail _ (.tail _ (.tail _ (.tail _ (.tail _ (.tail _ (.tail _ (.tail _ (.tail _ (.tail _ (.tail _ (.tail _ h)))))))))))) | exact fun _ h => .tail _ (.tail _ (.tail _ (.tail _ (.tail _ (.tail _ (.tail _ (.tail _ (.tail _ (.tail _ (.tail _ (.tail _ (.tail _ (.tail _ h))))))))))))) | exact fun _ h => .tail _ (.tail _ (.tail _ (.tail _ (.tail _ (.tail _ (.tail _ (.tail _ (.tail _ (.tail _ (.tail _ (.tail _ (.tail _ (.tail _ (.tail _ h))))))))))))))) | exact Or.inl rfl); k_whole); intro h9 tk9 F9 N9; (try dsimp only)))
local macro_rules | `(tactic| walk_at "call builtin:max") => `(tactic| (k_here; (with_reducible show wpAny _ _ (call (Value.builtin _) [Value.int _ _, Value.int _ _]) _ _ _); k_dflt (refine' Mine.max_wc ?kA ?kC ?k1 ?k2 ?_; (case kA => exact rfl); (case k1 => k_asm); (case k2 => k_asm); (case kC => first | exact Mine.CalmN.at (by assumption) (by k_asm) (by first | exact fun _ h => h | exact fun _ h => .tail _ h | exact fun _ h => .tail _ (.tail _ h) | exact fun _ h => .tail _ (.tail _ (.tail _ h)) | exact fun _ h => .tail _ (.tail _ (.tail _ (.tail _ h))) | exact fun _ h => .tail _ (.tail _ (.tail _ (.tail _ (.tail _ h)))) | exact fun _ h => .tail _ (.tail _ (.tail _ (.tail _ (.tail _ (.tail _ h))))) | exact fun _ h => .tail _ (.tail _ (.tail _ (.tail _ (.tail _ (.tail _ (.tail _ h)))))) | exact fun _ h => .tail _ (.tail _ (.tail _ (.tail _ (.tail _ (.tail _ (.tail _ (.tail _ h))))))) | exact fun _ h => .tail _ (.tail _ (.tail _ (.tail _ (.tail _ (.tail _ (.tail _ (.tail _ (.tail _ h)))))))) | exact fun _ h => .tail _ (.tail _ (.tail _ (.tail _ (.tail _ (.tail _ (.tail _ (.tail _ (.tail _ (.tail _ h))))))))) | exact fun _ h => .tail _ (.tail _ (.tail _ (.tail _ (.tail _ (.tail _ (.tail _ (.tail _ (.tail _ (.tail _ (.tail _ h)))))))))) | exact fun _ h => .tail _ (.tail _ (.tail _ (.tail _ (.tail _ (.tail _ (.tail _ (.tail _ (.tail _ (.tail _ (.tail _ (.tail _ h))))))))))) | exact fun _ h => .tail _ (.tail _ (.tail _ (.tail _ (.tail _ (.tail _ (.tail _ (.tail _ (.tail _ (.tail _ (.tail _ (.tail _ (.tail _ h)))))))))))) | exact fun _ h => .tail _ (.tail _ (.tail _ (.tail _ (.tail _ (.tail _ (.tail _ (.tail _ (.tail _ (.tail _ (.tail _ (.tail _ (.tail _ (.tail _ h))))))))))))) | exact fun _ h => .tail _ (.tail _ (.tail _ (.tail _ (.tail _ (.tail _ (.tail _ (.tail _ (.tail _ (.tail _ (.tail _ (.tail _ (.tail _ (.tail _ (.tail _ h))))))))))))))) | exact Or.inl rfl); k_whole); intro v9 h9 tk9 F9 N9; (try dsimp only)))
local macro_rules | `(tactic| walk_at "exec Assert") => `(tactic| (refine Mine.assert_holds ?_))

local macro_rules | `(tactic| walk_at "call ref") => `(tactic| (k_here; (with_reducible show wpAny _ _ (call (Value.ref 133) _) _ _ _); k_dflt (refine' Mine.CtrE.use (Mine.c_sqrt_neg _ _ _ _ _ _ _ _ _ _ _ _ _ _ ?m1) ?k1 ?k2 ?k3 ?k4 ?k5 ?k6 ?k7 ?k8 ?_; (case k1 => k_asm); (case k2 => k_asm); (case k3 => k_asm); (case k4 => k_asm); (case k5 => k_asm); (case k6 => first | exact rfl | assumption); (case k7 => first | ((try dsimp only [Mine.ktrX]); (try simp only [depth_under_make, depth_under_kw, depth_in1, depth_deeper, depth_caller]); (try dsimp only [Mine.ktrX]); omega) | ((try dsimp only [Mine.ktrX] at *); ktr_room)); (case k8 => first | ((try dsimp only [Mine.ktrX]); (try simp only [units_in1, units_deeper, Around.mark_units, units_caller]); (try dsimp only [Mine.ktrX]); omega) | ((try dsimp only [Mine.ktrX] at *); ktr_units)); (case m1 => first | assumption | exact List.Mem.head _ | exact .tail _ (by assumption) | exact .tail _ (.head _) | exact .tail _ (.tail _ (by assumption)) | exact .tail _ (.tail _ (.head _)) | exact .tail _ (.tail _ (.tail _ (by assumption))) | exact .tail _ (.tail _ (.tail _ (.head _))) | exact .tail _ (.tail _ (.tail _ (.tail _ (by assumption)))) | exact .tail _ (.tail _ (.tail _ (.tail _ (.head _)))) | exact .tail _ (.tail _ (.tail _ (.tail _ (.tail _ (by assumption))))) | exact .tail _ (.tail _ (.tail _ (.tail _ (.tail _ (.head _))))) | exact .tail _ (.tail _ (.tail _ (.tail _ (.tail _ (.tail _ (by assumption)))))) | exact .tail _ (.tail _ (.tail _ (.tail _ (.tail _ (.tail _ (.head _)))))) | exact .tail _ (.tail _ (.tail _ (.tail _ (.tail _ (.tail _ (.tail _ (by assumption))))))) | exact .tail _ (.tail _ (.tail _ (.tail _ (.tail _ (.tail _ (.tail _ (.head _))))))) | k_mem)); intro e9 g9 h9 tk9 F9 U9 R9; (try dsimp only); (try k_fold)))
local macro_rules | `(tactic| walk_at "call ref") => `(tactic| (k_here; (with_reducible show wpAny _ _ (call (Value.ref 148) _) _ _ _); k_dflt (refine' Mine.Ctr.use (Mine.c_number _ _ _ _ _ _ _ _ ?m1 ?m2 ?_ ?_ ?_) ?k1 ?k2 ?k3 ?k4 ?k5 ?k6 ?k7 ?k8 ?k9 ?_; (case k1 => k_asm); (case k2 => k_asm); (case k3 => k_asm); (case k4 => k_asm); (case k5 => k_asm); (case k9 => first | assumption | exact Mine.CalmN.sub (by assumption) (by first | exact fun _ h => h | exact fun _ h => .tail _ h | exact fun _ h => .tail _ (.tail _ h) | exact fun _ h => .tail _ (.tail _ (.tail _ h)) | exact fun _ h => .tail _ (.tail _ (.tail _ (.tail _ h))) | exact fun _ h => .tail _ (.tail _ (.tail _ (.tail _ (.tail _ h)))) | exact fun _ h => .tail _ (.tail _ (.tail _ (.tail _ (.tail _ (.tail _ h))))) | exact fun _ h => .tail _ (.tail _ (.tail _ (.tail _ (.tail _ (.tail _ (.tail _ h)))))) | exact fun _ h => .tail _ (.tail _ (.tail _ (.tail _ (.tail _ (.tail _ (.tail _ (.tail _ h))))))) | exact fun _ h => .tail _ (.tail _ (.tail _ (.tail _ (.tail _ (.tail _ (.tail _ (.tail _ (.tail _ h)))))))) | exact fun _ h => .tail _ (.tail _ (.tail _ (.tail _ (.tail _ (.tail _ (.tail _ (.tail _ (.tail _ (.tail _ h))))))))) | exact fun _ h => .tail _ (.tail _ (.tail _ (.tail _ (.tail _ (.tail _ (.tail _ (.tail _ (.tail _ (.tail _ (.tail _ h)))))))))) | exact fun _ h => .tail _ (.tail _ (.tail _ (.tail _ (.tail _ (.tail _ (.tail _ (.tail _ (.tail _ (.tail _ (.tail _ (.tail _ h))))))))))) | exact fun _ h => .tail _ (.tail _ (.tail _ (.tail _ (.tail _ (.tail _ (.tail _ (.tail _ (.tail _ (.tail _ (.tail _ (.tail _ (.tail _ h)))))))))))) | exact fun _ h => .tail _ (.tail _ (.tail _ (.tail _ (.tail _ (.tail _ (.tail _ (.tail _ (.tail _ (.tail _ (.tail _ (.tail _ (.tail _ (.tail _ h))))))))))))) | exact fun _ h => .tail _ (.tail _ (.tail _ (.tail _ (.tail _ (.tail _ (.tail _ (.tail _ (.tail _ (.tail _ (.tail _ (.tail _ (.tail _ (.tail _ (.tail _ h))))))))))))))) | exact Or.inl rfl); (case k6 => first | exact rfl | assumption); (case k7 => first | ((try dsimp only [Mine.ktrX]); (try simp only [depth_under_make, depth_under_kw, depth_in1, depth_deeper, depth_caller]); (try dsimp only [Mine.ktrX]); omega) | ((try dsimp only [Mine.ktrX] at *); ktr_room)); (case k8 => first | ((try dsimp only [Mine.ktrX]); (try simp only [units_in1, units_deeper, Around.mark_units, units_caller]); (try dsimp only [Mine.ktrX]); omega) | ((try dsimp only [Mine.ktrX] at *); ktr_units)); (case m1 => first | assumption | exact List.Mem.head _ | exact .tail _ (by assumption) | exact .tail _ (.head _) | exact .tail _ (.tail _ (by assumption)) | exact .tail _ (.tail _ (.head _)) | exact .tail _ (.tail _ (.tail _ (by assumption))) | exact .tail _ (.tail _ (.tail _ (.head _))) | exact .tail _ (.tail _ (.tail _ (.tail _ (by assumption)))) | exact .tail _ (.tail _ (.tail _ (.tail _ (.head _)))) | exact .tail _ (.tail _ (.tail _ (.tail _ (.tail _ (by assumption))))) | exact .tail _ (.tail _ (.tail _ (.tail _ (.tail _ (.head _))))) | exact .tail _ (.tail _ (.tail _ (.tail _ (.tail _ (.tail _ (by assumption)))))) | exact .tail _ (.tail _ (.tail _ (.tail _ (.tail _ (.tail _ (.head _)))))) | exact .tail _ (.tail _ (.tail _ (.tail _ (.tail _ (.tail _ (.tail _ (by assumption))))))) | exact .tail _ (.tail _ (.tail _ (.tail _ (.tail _ (.tail _ (.tail _ (.head _))))))) | k_mem); (case m2 => first | assumption | exact List.Mem.head _ | exact .tail _ (by assumption) | exact .tail _ (.head _) | exact .tail _ (.tail _ (by assumption)) | exact .tail _ (.tail _ (.head _)) | exact .tail _ (.tail _ (.tail _ (by assumption))) | exact .tail _ (.tail _ (.tail _ (.head _))) | exact .tail _ (.tail _ (.tail _ (.tail _ (by assumption)))) | exact .tail _ (.tail _ (.tail _ (.tail _ (.head _)))) | exact .tail _ (.tail _ (.tail _ (.tail _ (.tail _ (by assumption))))) | exact .tail _ (.tail _ (.tail _ (.tail _ (.tail _ (.head _))))) | exact .tail _ (.tail _ (.tail _ (.tail _ (.tail _ (.tail _ (by assumption)))))) | exact .tail _ (.tail _ (.tail _ (.tail _ (.tail _ (.tail _ (.head _)))))) | exact .tail _ (.tail _ (.tail _ (.tail _ (.tail _ (.tail _ (.tail _ (by assumption))))))) | exact .tail _ (.tail _ (.tail _ (.tail _ (.tail _ (.tail _ (.tail _ (.head _))))))) | k_mem); (all_goals skip); (first | with_reducible exact Mine.WAll.w0 (by assumption) | with_reducible exact Mine.WAll.wb (by assumption) | with_reducible exact Mine.WAll.wb2 (by assumption) | with_reducible exact Mine.WAll.p (by assumption) | with_reducible exact Mine.WAll.m1 (by assumption) | with_reducible exact Mine.WAll.m2 (by assumption) | with_reducible exact Mine.WAll.m3 (by assumption) | with_reducible exact Mine.f_w0 | with_reducible exact Mine.f_wb | with_reducible exact Mine.f_wb2 | with_reducible exact Mine.f_v0 | with_reducible exact Mine.f_vb | with_reducible exact Mine.f_vb2 | with_reducible exact Mine.f_p | with_reducible exact Mine.f_q | with_reducible exact Mine.f_m1 | with_reducible exact Mine.f_m2 | with_reducible exact Mine.f_m3 | with_reducible exact Mine.f_m4 | with_reducible exact Mine.f_m5 | with_reducible exact Mine.f_k1 | with_reducible exact Mine.f_k2 | with_reducible exact Mine.f_k3 | with_reducible exact (Mine.b_all _).s0 | with_reducible exact (Mine.b_all _).sb | with_reducible exact (Mine.b_all _).r0 | with_reducible exact (Mine.b_all _).rb | with_reducible exact (Mine.b_all _).ok | decide | with_reducible exact PySem.IntMulOk.of_left (by decide) | assumption | omega | rotate_left); (first | with_reducible exact Mine.WAll.w0 (by assumption) | with_reducible exact Mine.WAll.wb (by assumption) | with_reducible exact Mine.WAll.wb2 (by assumption) | with_reducible exact Mine.WAll.p (by assumption) | with_reducible exact Mine.WAll.m1 (by assumption) | with_reducible exact Mine.WAll.m2 (by assumption) | with_reducible exact Mine.WAll.m3 (by assumption) | with_reducible exact Mine.f_w0 | with_reducible exact Mine.f_wb | with_reducible exact Mine.f_wb2 | with_reducible exact Mine.f_v0 | with_reducible exact Mine.f_vb | with_reducible exact Mine.f_vb2 | with_reducible exact Mine.f_p | with_reducible exact Mine.f_q | with_reducible exact Mine.f_m1 | with_reducible exact Mine.f_m2 | with_reducible exact Mine.f_m3 | with_reducible exact Mine.f_m4 | with_reducible exact Mine.f_m5 | with_reducible exact Mine.f_k1 | with_reducible exact Mine.f_k2 | with_reducible exact Mine.f_k3 | with_reducible exact (Mine.b_all _).s0 | with_reducible exact (Mine.b_all _).sb | with_reducible exact (Mine.b_all _).r0 | with_reducible exact (Mine.b_all _).rb | with_reducible exact (Mine.b_all _).ok | decide | with_reducible exact PySem.IntMulOk.of_left (by decide) | assumption | omega | rotate_left); (first | with_reducible exact Mine.WAll.w0 (by assumption) | with_reducible exact Mine.WAll.wb (by assumption) | with_reducible exact Mine.WAll.wb2 (by assumption) | with_reducible exact Mine.WAll.p (by assumption) | with_reducible exact Mine.WAll.m1 (by assumption) | with_reducible exact Mine.WAll.m2 (by assumption) | with_reducible exact Mine.WAll.m3 (by assumption) | with_reducible exact Mine.f_w0 | with_reducible exact Mine.f_wb | with_reducible exact Mine.f_wb2 | with_reducible exact Mine.f_v0 | with_reducible exact Mine.f_vb | with_reducible exact Mine.f_vb2 | with_reducible exact Mine.f_p | with_reducible exact Mine.f_q | with_reducible exact Mine.f_m1 | with_reducible exact Mine.f_m2 | with_reducible exact Mine.f_m3 | with_reducible exact Mine.f_m4 | with_reducible exact Mine.f_m5 | with_reducible exact Mine.f_k1 | with_reducible exact Mine.f_k2 | with_reducible exact Mine.f_k3 | with_reducible exact (Mine.b_all _).s0 | with_reducible exact (Mine.b_all _).sb | with_reducible exact (Mine.b_all _).r0 | with_reducible exact (Mine.b_all _).rb | with_reducible exact (Mine.b_all _).ok | decide | with_reducible exact PySem.IntMulOk.of_left (by decide) | assumption | omega | rotate_left)); intro t9 h9 tk9 F9 N9; (try dsimp only); (try k_fold)))
local macro_rules | `(tactic| walk_at "call ref") => `(tactic| (k_here; (with_reducible show wpAny _ _ (call (Value.ref 35) _) _ _ _); k_dflt (refine' Mine.Ctr.use (Mine.c_sqrtrem _ _ _ _ ?_ ?_) ?k1 ?k2 ?k3 ?k4 ?k5 ?k6 ?k7 ?k8 ?k9 ?_; (case k1 => k_asm); (case k2 => k_asm); (case k3 => k_asm); (case k4 => k_asm); (case k5 => k_asm); (case k9 => first | assumption | exact Mine.CalmN.sub (by assumption) (by first | exact fun _ h => h | exact fun _ h => .tail _ h | exact fun _ h => .tail _ (.tail _ h) | exact fun _ h => .tail _ (.tail _ (.tail _ h)) | exact fun _ h => .tail _ (.tail _ (.tail _ (.tail _ h))) | exact fun _ h => .tail _ (.tail _ (.tail _ (.tail _ (.tail _ h)))) | exact fun _ h => .tail _ (.tail _ (.tail _ (.tail _ (.tail _ (.tail _ h))))) | exact fun _ h => .tail _ (.tail _ (.tail _ (.tail _ (.tail _ (.tail _ (.tail _ h)))))) | exact fun _ h => .tail _ (.tail _ (.tail _ (.tail _ (.tail _ (.tail _ (.tail _ (.tail _ h))))))) | exact fun _ h => .tail _ (.tail _ (.tail _ (.tail _ (.tail _ (.tail _ (.tail _ (.tail _ (.tail _ h)))))))) | exact fun _ h => .tail _ (.tail _ (.tail _ (.tail _ (.tail _ (.tail _ (.tail _ (.tail _ (.tail _ (.tail _ h))))))))) | exact fun _ h => .tail _ (.tail _ (.tail _ (.tail _ (.tail _ (.tail _ (.tail _ (.tail _ (.tail _ (.tail _ (.tail _ h)))))))))) | exact fun _ h => .tail _ (.tail _ (.tail _ (.tail _ (.tail _ (.tail _ (.tail _ (.tail _ (.tail _ (.tail _ (.tail _ (.tail _ h))))))))))) | exact fun _ h => .tail _ (.tail _ (.tail _ (.tail _ (.tail _ (.tail _ (.tail _ (.tail _ (.tail _ (.tail _ (.tail _ (.tail _ (.tail _ h)))))))))))) | exact fun _ h => .tail _ (.tail _ (.tail _ (.tail _ (.tail _ (.tail _ (.tail _ (.tail _ (.tail _ (.tail _ (.tail _ (.tail _ (.tail _ (.tail _ h))))))))))))) | exact fun _ h => .tail _ (.tail _ (.tail _ (.tail _ (.tail _ (.tail _ (.tail _ (.tail _ (.tail _ (.tail _ (.tail _ (.tail _ (.tail _ (.tail _ (.tail _ h))))))))))))))) | exact Or.inl rfl); (case k6 => first | exact rfl | assumption); (case k7 => first | ((try dsimp only [Mine.ktrX]); (try simp only [depth_under_make, depth_under_kw, depth_in1, depth_deeper, depth_caller]); (try dsimp only [Mine.ktrX]); omega) | ((try dsimp only [Mine.ktrX] at *); ktr_room)); (case k8 => first | ((try dsimp only [Mine.ktrX]); (try simp only [units_in1, units_deeper, Around.mark_units, units_caller]); (try dsimp only [Mine.ktrX]); omega) | ((try dsimp only [Mine.ktrX] at *); ktr_units)); (first | with_reducible exact Mine.WAll.w0 (by assumption) | with_reducible exact Mine.WAll.wb (by assumption) | with_reducible exact Mine.WAll.wb2 (by assumption) | with_reducible exact Mine.WAll.p (by assumption) | with_reducible exact Mine.WAll.m1 (by assumption) | with_reducible exact Mine.WAll.m2 (by assumption) | with_reducible exact Mine.WAll.m3 (by assumption) | with_reducible exact Mine.f_w0 | with_reducible exact Mine.f_wb | with_reducible exact Mine.f_wb2 | with_reducible exact Mine.f_v0 | with_reducible exact Mine.f_vb | with_reducible exact Mine.f_vb2 | with_reducible exact Mine.f_p | with_reducible exact Mine.f_q | with_reducible exact Mine.f_m1 | with_reducible exact Mine.f_m2 | with_reducible exact Mine.f_m3 | with_reducible exact Mine.f_m4 | with_reducible exact Mine.f_m5 | with_reducible exact Mine.f_k1 | with_reducible exact Mine.f_k2 | with_reducible exact Mine.f_k3 | with_reducible exact (Mine.b_all _).s0 | with_reducible exact (Mine.b_all _).sb | with_reducible exact (Mine.b_all _).r0 | with_reducible exact (Mine.b_all _).rb | with_reducible exact (Mine.b_all _).ok | decide | with_reducible exact PySem.IntMulOk.of_left (by decide) | assumption | omega | rotate_left); (first | with_reducible exact Mine.WAll.w0 (by assumption) | with_reducible exact Mine.WAll.wb (by assumption) | with_reducible exact Mine.WAll.wb2 (by assumption) | with_reducible exact Mine.WAll.p (by assumption) | with_reducible exact Mine.WAll.m1 (by assumption) | with_reducible exact Mine.WAll.m2 (by assumption) | with_reducible exact Mine.WAll.m3 (by assumption) | with_reducible exact Mine.f_w0 | with_reducible exact Mine.f_wb | with_reducible exact Mine.f_wb2 | with_reducible exact Mine.f_v0 | with_reducible exact Mine.f_vb | with_reducible exact Mine.f_vb2 | with_reducible exact Mine.f_p | with_reducible exact Mine.f_q | with_reducible exact Mine.f_m1 | with_reducible exact Mine.f_m2 | with_reducible exact Mine.f_m3 | with_reducible exact Mine.f_m4 | with_reducible exact Mine.f_m5 | with_reducible exact Mine.f_k1 | with_reducible exact Mine.f_k2 | with_reducible exact Mine.f_k3 | with_reducible exact (Mine.b_all _).s0 | with_reducible exact (Mine.b_all _).sb | with_reducible exact (Mine.b_all _).r0 | with_reducible exact (Mine.b_all _).rb | with_reducible exact (Mine.b_all _).ok | decide | with_reducible exact PySem.IntMulOk.of_left (by decide) | assumption | omega | rotate_left)); intro D9 t9 u9 h9 tk9 F9 N9; (try dsimp only); (try k_fold)))
local macro_rules | `(tactic| walk_at "call ref") => `(tactic| (k_here; (with_reducible show wpAny _ _ (call (Value.ref 42) _) _ _ _); k_dflt (refine' Mine.Ctr.use (Mine.c_isqrt _ _ _ _ ?_ ?_) ?k1 ?k2 ?k3 ?k4 ?k5 ?k6 ?k7 ?k8 ?k9 ?_; (case k1 => k_asm); (case k2 => k_asm); (case k3 => k_asm); (case k4 => k_asm); (case k5 => k_asm); (case k9 => first | assumption | exact Mine.CalmN.sub (by assumption) (by first | exact fun _ h => h | exact fun _ h => .tail _ h | exact fun _ h => .tail _ (.tail _ h) | exact fun _ h => .tail _ (.tail _ (.tail _ h)) | exact fun _ h => .tail _ (.tail _ (.tail _ (.tail _ h))) | exact fun _ h => .tail _ (.tail _ (.tail _ (.tail _ (.tail _ h)))) | exact fun _ h => .tail _ (.tail _ (.tail _ (.tail _ (.tail _ (.tail _ h))))) | exact fun _ h => .tail _ (.tail _ (.tail _ (.tail _ (.tail _ (.tail _ (.tail _ h)))))) | exact fun _ h => .tail _ (.tail _ (.tail _ (.tail _ (.tail _ (.tail _ (.tail _ (.tail _ h))))))) | exact fun _ h => .tail _ (.tail _ (.tail _ (.tail _ (.tail _ (.tail _ (.tail _ (.tail _ (.tail _ h)))))))) | exact fun _ h => .tail _ (.tail _ (.tail _ (.tail _ (.tail _ (.tail _ (.tail _ (.tail _ (.tail _ (.tail _ h))))))))) | exact fun _ h => .tail _ (.tail _ (.tail _ (.tail _ (.tail _ (.tail _ (.tail _ (.tail _ (.tail _ (.tail _ (.tail _ h)))))))))) | exact fun _ h => .tail _ (.tail _ (.tail _ (.tail _ (.tail _ (.tail _ (.tail _ (.tail _ (.tail _ (.tail _ (.tail _ (.tail _ h))))))))))) | exact fun _ h => .tail _ (.tail _ (.tail _ (.tail _ (.tail _ (.tail _ (.tail _ (.tail _ (.tail _ (.tail _ (.tail _ (.tail _ (.tail _ h)))))))))))) | exact fun _ h => .tail _ (.tail _ (.tail _ (.tail _ (.tail _ (.tail _ (.tail _ (.tail _ (.tail _ (.tail _ (.tail _ (.tail _ (.tail _ (.tail _ h))))))))))))) | exact fun _ h => .tail _ (.tail _ (.tail _ (.tail _ (.tail _ (.tail _ (.tail _ (.tail _ (.tail _ (.tail _ (.tail _ (.tail _ (.tail _ (.tail _ (.tail _ h))))))))))))))) | exact Or.inl rfl); (case k6 => first | exact rfl | assumption); (case k7 => first | ((try dsimp only [Mine.ktrX]); (try simp only [depth_under_make, depth_under_kw, depth_in1, depth_deeper, depth_caller]); (try dsimp only [Mine.ktrX]); omega) | ((try dsimp only [Mine.ktrX] at *); ktr_room)); (case k8 => first | ((try dsimp only [Mine.ktrX]); (try simp only [units_in1, units_deeper, Around.mark_units, units_caller]); (try dsimp only [Mine.ktrX]); omega) | ((try dsimp only [Mine.ktrX] at *); ktr_units)); (first | with_reducible exact Mine.WAll.w0 (by assumption) | with_reducible exact Mine.WAll.wb (by assumption) | with_reducible exact Mine.WAll.wb2 (by assumption) | with_reducible exact Mine.WAll.p (by assumption) | with_reducible exact Mine.WAll.m1 (by assumption) | with_reducible exact Mine.WAll.m2 (by assumption) | with_reducible exact Mine.WAll.m3 (by assumption) | with_reducible exact Mine.f_w0 | with_reducible exact Mine.f_wb | with_reducible exact Mine.f_wb2 | with_reducible exact Mine.f_v0 | with_reducible exact Mine.f_vb | with_reducible exact Mine.f_vb2 | with_reducible exact Mine.f_p | with_reducible exact Mine.f_q | with_reducible exact Mine.f_m1 | with_reducible exact Mine.f_m2 | with_reducible exact Mine.f_m3 | with_reducible exact Mine.f_m4 | with_reducible exact Mine.f_m5 | with_reducible exact Mine.f_k1 | with_reducible exact Mine.f_k2 | with_reducible exact Mine.f_k3 | with_reducible exact (Mine.b_all _).s0 | with_reducible exact (Mine.b_all _).sb | with_reducible exact (Mine.b_all _).r0 | with_reducible exact (Mine.b_all _).rb | with_reducible exact (Mine.b_all _).ok | decide | with_reducible exact PySem.IntMulOk.of_left (by decide) | assumption | omega | rotate_left); (first | with_reducible exact Mine.WAll.w0 (by assumption) | with_reducible exact Mine.WAll.wb (by assumption) | with_reducible exact Mine.WAll.wb2 (by assumption) | with_reducible exact Mine.WAll.p (by assumption) | with_reducible exact Mine.WAll.m1 (by assumption) | with_reducible exact Mine.WAll.m2 (by assumption) | with_reducible exact Mine.WAll.m3 (by assumption) | with_reducible exact Mine.f_w0 | with_reducible exact Mine.f_wb | with_reducible exact Mine.f_wb2 | with_reducible exact Mine.f_v0 | with_reducible exact Mine.f_vb | with_reducible exact Mine.f_vb2 | with_reducible exact Mine.f_p | with_reducible exact Mine.f_q | with_reducible exact Mine.f_m1 | with_reducible exact Mine.f_m2 | with_reducible exact Mine.f_m3 | with_reducible exact Mine.f_m4 | with_reducible exact Mine.f_m5 | with_reducible exact Mine.f_k1 | with_reducible exact Mine.f_k2 | with_reducible exact Mine.f_k3 | with_reducible exact (Mine.b_all _).s0 | with_reducible exact (Mine.b_all _).sb | with_reducible exact (Mine.b_all _).r0 | with_reducible exact (Mine.b_all _).rb | with_reducible exact (Mine.b_all _).ok | decide | with_reducible exact PySem.IntMulOk.of_left (by decide) | assumption | omega | rotate_left)); intro t9 h9 tk9 F9 N9; (try dsimp only); (try k_fold)))
local macro_rules | `(tactic| walk_at "call ref") => `(tactic| (k_here; (with_reducible show wpAny _ _ (call (Value.ref 169) _) _ _ _); k_dflt (refine' Mine.Ctr.use (Mine.c_root_any _ _ _ _ _ _ _ _ _ _ ?_ ?_ ?_ ?_) ?k1 ?k2 ?k3 ?k4 ?k5 ?k6 ?k7 ?k8 ?k9 ?_; (case k1 => k_asm); (case k2 => k_asm); (case k3 => k_asm); (case k4 => k_asm); (case k5 => k_asm); (case k9 => first | assumption | exact Mine.CalmN.sub (by assumption) (by first | exact fun _ h => h | exact fun _ h => .tail _ h | exact fun _ h => .tail _ (.tail _ h) | exact fun _ h => .tail _ (.tail _ (.tail _ h)) | exact fun _ h => .tail _ (.tail _ (.tail _ (.tail _ h))) | exact fun _ h => .tail _ (.tail _ (.tail _ (.tail _ (.tail _ h)))) | exact fun _ h => .tail _ (.tail _ (.tail _ (.tail _ (.tail _ (.tail _ h))))) | exact fun _ h => .tail _ (.tail _ (.tail _ (.tail _ (.tail _ (.tail _ (.tail _ h)))))) | exact fun _ h => .tail _ (.tail _ (.tail _ (.tail _ (.tail _ (.tail _ (.tail _ (.tail _ h))))))) | exact fun _ h => .tail _ (.tail _ (.tail _ (.tail _ (.tail _ (.tail _ (.tail _ (.tail _ (.tail _ h)))))))) | exact fun _ h => .tail _ (.tail _ (.tail _ (.tail _ (.tail _ (.tail _ (.tail _ (.tail _ (.tail _ (.tail _ h))))))))) | exact fun _ h => .tail _ (.tail _ (.tail _ (.tail _ (.tail _ (.tail _ (.tail _ (.tail _ (.tail _ (.tail _ (.tail _ h)))))))))) | exact fun _ h => .tail _ (.tail _ (.tail _ (.tail _ (.tail _ (.tail _ (.tail _ (.tail _ (.tail _ (.tail _ (.tail _ (.tail _ h))))))))))) | exact fun _ h => .tail _ (.tail _ (.tail _ (.tail _ (.tail _ (.tail _ (.tail _ (.tail _ (.tail _ (.tail _ (.tail _ (.tail _ (.tail _ h)))))))))))) | exact fun _ h => .tail _ (.tail _ (.tail _ (.tail _ (.tail _ (.tail _ (.tail _ (.tail _ (.tail _ (.tail _ (.tail _ (.tail _ (.tail _ (.tail _ h))))))))))))) | exact fun _ h => .tail _ (.tail _ (.tail _ (.tail _ (.tail _ (.tail _ (.tail _ (.tail _ (.tail _ (.tail _ (.tail _ (.tail _ (.tail _ (.tail _ (.tail _ h))))))))))))))) | exact Or.inl rfl); (case k6 => first | exact rfl | assumption); (case k7 => first | ((try dsimp only [Mine.ktrX]); (try simp only [depth_under_make, depth_under_kw, depth_in1, depth_deeper, depth_caller]); (try dsimp only [Mine.ktrX]); omega) | ((try dsimp only [Mine.ktrX] at *); ktr_room)); (case k8 => first | ((try dsimp only [Mine.ktrX]); (try simp only [units_in1, units_deeper, Around.mark_units, units_caller]); (try dsimp only [Mine.ktrX]); omega) | ((try dsimp only [Mine.ktrX] at *); ktr_units)); (first | with_reducible exact Mine.WAll.w0 (by assumption) | with_reducible exact Mine.WAll.wb (by assumption) | with_reducible exact Mine.WAll.wb2 (by assumption) | with_reducible exact Mine.WAll.p (by assumption) | with_reducible exact Mine.WAll.m1 (by assumption) | with_reducible exact Mine.WAll.m2 (by assumption) | with_reducible exact Mine.WAll.m3 (by assumption) | with_reducible exact Mine.f_w0 | with_reducible exact Mine.f_wb | with_reducible exact Mine.f_wb2 | with_reducible exact Mine.f_v0 | with_reducible exact Mine.f_vb | with_reducible exact Mine.f_vb2 | with_reducible exact Mine.f_p | with_reducible exact Mine.f_q | with_reducible exact Mine.f_m1 | with_reducible exact Mine.f_m2 | with_reducible exact Mine.f_m3 | with_reducible exact Mine.f_m4 | with_reducible exact Mine.f_m5 | with_reducible exact Mine.f_k1 | with_reducible exact Mine.f_k2 | with_reducible exact Mine.f_k3 | with_reducible exact (Mine.b_all _).s0 | with_reducible exact (Mine.b_all _).sb | with_reducible exact (Mine.b_all _).r0 | with_reducible exact (Mine.b_all _).rb | with_reducible exact (Mine.b_all _).ok | decide | with_reducible exact PySem.IntMulOk.of_left (by decide) | assumption | omega | rotate_left); (first | with_reducible exact Mine.WAll.w0 (by assumption) | with_reducible exact Mine.WAll.wb (by assumption) | with_reducible exact Mine.WAll.wb2 (by assumption) | with_reducible exact Mine.WAll.p (by assumption) | with_reducible exact Mine.WAll.m1 (by assumption) | with_reducible exact Mine.WAll.m2 (by assumption) | with_reducible exact Mine.WAll.m3 (by assumption) | with_reducible exact Mine.f_w0 | with_reducible exact Mine.f_wb | with_reducible exact Mine.f_wb2 | with_reducible exact Mine.f_v0 | with_reducible exact Mine.f_vb | with_reducible exact Mine.f_vb2 | with_reducible exact Mine.f_p | with_reducible exact Mine.f_q | with_reducible exact Mine.f_m1 | with_reducible exact Mine.f_m2 | with_reducible exact Mine.f_m3 | with_reducible exact Mine.f_m4 | with_reducible exact Mine.f_m5 | with_reducible exact Mine.f_k1 | with_reducible exact Mine.f_k2 | with_reducible exact Mine.f_k3 | with_reducible exact (Mine.b_all _).s0 | with_reducible exact (Mine.b_all _).sb | with_reducible exact (Mine.b_all _).r0 | with_reducible exact (Mine.b_all _).rb | with_reducible exact (Mine.b_all _).ok | decide | with_reducible exact PySem.IntMulOk.of_left (by decide) | assumption | omega | rotate_left); (first | with_reducible exact Mine.WAll.w0 (by assumption) | with_reducible exact Mine.WAll.wb (by assumption) | with_reducible exact Mine.WAll.wb2 (by assumption) | with_reducible exact Mine.WAll.p (by assumption) | with_reducible exact Mine.WAll.m1 (by assumption) | with_reducible exact Mine.WAll.m2 (by assumption) | with_reducible exact Mine.WAll.m3 (by assumption) | with_reducible exact Mine.f_w0 | with_reducible exact Mine.f_wb | with_reducible exact Mine.f_wb2 | with_reducible exact Mine.f_v0 | with_reducible exact Mine.f_vb | with_reducible exact Mine.f_vb2 | with_reducible exact Mine.f_p | with_reducible exact Mine.f_q | with_reducible exact Mine.f_m1 | with_reducible exact Mine.f_m2 | with_reducible exact Mine.f_m3 | with_reducible exact Mine.f_m4 | with_reducible exact Mine.f_m5 | with_reducible exact Mine.f_k1 | with_reducible exact Mine.f_k2 | with_reducible exact Mine.f_k3 | with_reducible exact (Mine.b_all _).s0 | with_reducible exact (Mine.b_all _).sb | with_reducible exact (Mine.b_all _).r0 | with_reducible exact (Mine.b_all _).rb | with_reducible exact (Mine.b_all _).ok | decide | with_reducible exact PySem.IntMulOk.of_left (by decide) | assumption | omega | rotate_left); (first | with_reducible exact Mine.WAll.w0 (by assumption) | with_reducible exact Mine.WAll.wb (by assumption) | with_reducible exact Mine.WAll.wb2 (by assumption) | with_reducible exact Mine.WAll.p (by assumption) | with_reducible exact Mine.WAll.m1 (by assumption) | with_reducible exact Mine.WAll.m2 (by assumption) | with_reducible exact Mine.WAll.m3 (by assumption) | with_reducible exact Mine.f_w0 | with_reducible exact Mine.f_wb | with_reducible exact Mine.f_wb2 | with_reducible exact Mine.f_v0 | with_reducible exact Mine.f_vb | with_reducible exact Mine.f_vb2 | with_reducible exact Mine.f_p | with_reducible exact Mine.f_q | with_reducible exact Mine.f_m1 | with_reducible exact Mine.f_m2 | with_reducible exact Mine.f_m3 | with_reducible exact Mine.f_m4 | with_reducible exact Mine.f_m5 | with_reducible exact Mine.f_k1 | with_reducible exact Mine.f_k2 | with_reducible exact Mine.f_k3 | with_reducible exact (Mine.b_all _).s0 | with_reducible exact (Mine.b_all _).sb | with_reducible exact (Mine.b_all _).r0 | with_reducible exact (Mine.b_all _).rb | with_reducible exact (Mine.b_all _).ok | decide | with_reducible exact PySem.IntMulOk.of_left (by decide) | assumption | omega | rotate_left)); intro D9 t9 u9 v9 x9 h9 tk9 F9 N9; (try dsimp only); (try k_fold)))
local macro_rules | `(tactic| walk_at "call ref") => `(tactic| (k_here; (with_reducible show wpAny _ _ (call (Value.ref 86) _) _ _ _); k_dflt (refine' Mine.Ctr.use (Mine.c_fme_any _ _ _ _ _ _ _ ?m1) ?k1 ?k2 ?k3 ?k4 ?k5 ?k6 ?k7 ?k8 ?k9 ?_; (case k1 => k_asm); (case k2 => k_asm); (case k3 => k_asm); (case k4 => k_asm); (case k5 => k_asm); (case k9 => first | assumption | exact Mine.CalmN.sub (by assumption) (by first | exact fun _ h => h | exact fun _ h => .tail _ h | exact fun _ h => .tail _ (.tail _ h) | exact fun _ h => .tail _ (.tail _ (.tail _ h)) | exact fun _ h => .tail _ (.tail _ (.tail _ (.tail _ h))) | exact fun _ h => .tail _ (.tail _ (.tail _ (.tail _ (.tail _ h)))) | exact fun _ h => .tail _ (.tail _ (.tail _ (.tail _ (.tail _ (.tail _ h))))) | exact fun _ h => .tail _ (.tail _ (.tail _ (.tail _ (.tail _ (.tail _ (.tail _ h)))))) | exact fun _ h => .tail _ (.tail _ (.tail _ (.tail _ (.tail _ (.tail _ (.tail _ (.tail _ h))))))) | exact fun _ h => .tail _ (.tail _ (.tail _ (.tail _ (.tail _ (.tail _ (.tail _ (.tail _ (.tail _ h)))))))) | exact fun _ h => .tail _ (.tail _ (.tail _ (.tail _ (.tail _ (.tail _ (.tail _ (.tail _ (.tail _ (.tail _ h))))))))) | exact fun _ h => .tail _ (.tail _ (.tail _ (.tail _ (.tail _ (.tail _ (.tail _ (.tail _ (.tail _ (.tail _ (.tail _ h)))))))))) | exact fun _ h => .tail _ (.tail _ (.tail _ (.tail _ (.tail _ (.tail _ (.tail _ (.tail _ (.tail _ (.tail _ (.tail _ (.tail _ h))))))))))) | exact fun _ h => .tail _ (.tail _ (.tail _ (.tail _ (.tail _ (.tail _ (.tail _ (.tail _ (.tail _ (.tail _ (.tail _ (.tail _ (.tail _ h)))))))))))) | exact fun _ h => .tail _ (.tail _ (.tail _ (.tail _ (.tail _ (.tail _ (.tail _ (.tail _ (.tail _ (.tail _ (.tail _ (.tail _ (.tail _ (.tail _ h))))))))))))) | exact fun _ h => .tail _ (.tail _ (.tail _ (.tail _ (.tail _ (.tail _ (.tail _ (.tail _ (.tail _ (.tail _ (.tail _ (.tail _ (.tail _ (.tail _ (.tail _ h))))))))))))))) | exact Or.inl rfl); (case k6 => first | exact rfl | assumption); (case k7 => first | ((try dsimp only [Mine.ktrX]); (try simp only [depth_under_make, depth_under_kw, depth_in1, depth_deeper, depth_caller]); (try dsimp only [Mine.ktrX]); omega) | ((try dsimp only [Mine.ktrX] at *); ktr_room)); (case k8 => first | ((try dsimp only [Mine.ktrX]); (try simp only [units_in1, units_deeper, Around.mark_units, units_caller]); (try dsimp only [Mine.ktrX]); omega) | ((try dsimp only [Mine.ktrX] at *); ktr_units)); (case m1 => first | assumption | exact List.Mem.head _ | exact .tail _ (by assumption) | exact .tail _ (.head _) | exact .tail _ (.tail _ (by assumption)) | exact .tail _ (.tail _ (.head _)) | exact .tail _ (.tail _ (.tail _ (by assumption))) | exact .tail _ (.tail _ (.tail _ (.head _))) | exact .tail _ (.tail _ (.tail _ (.tail _ (by assumption)))) | exact .tail _ (.tail _ (.tail _ (.tail _ (.head _)))) | exact .tail _ (.tail _ (.tail _ (.tail _ (.tail _ (by assumption))))) | exact .tail _ (.tail _ (.tail _ (.tail _ (.tail _ (.head _))))) | exact .tail _ (.tail _ (.tail _ (.tail _ (.tail _ (.tail _ (by assumption)))))) | exact .tail _ (.tail _ (.tail _ (.tail _ (.tail _ (.tail _ (.head _)))))) | exact .tail _ (.tail _ (.tail _ (.tail _ (.tail _ (.tail _ (.tail _ (by assumption))))))) | exact .tail _ (.tail _ (.tail _ (.tail _ (.tail _ (.tail _ (.tail _ (.head _))))))) | k_mem); (all_goals skip)); intro D9 p9 h9 tk9 V9 F9 N9; (try dsimp only); (try k_fold)))
local macro_rules | `(tactic| walk_at "call ref") => `(tactic| (k_here; (with_reducible show wpAny _ _ (call (Value.ref 133) _) _ _ _); k_dflt (refine' Mine.Ctr.use (Mine.c_sqrt_any _ _ _ _ _ _ _ _ _ _ ?m1 ?m2 ?_ ?_ ?_ ?_) ?k1 ?k2 ?k3 ?k4 ?k5 ?k6 ?k7 ?k8 ?k9 ?_; (case k1 => k_asm); (case k2 => k_asm); (case k3 => k_asm); (case k4 => k_asm); (case k5 => k_asm); (case k9 => first | assumption | exact Mine.CalmN.sub (by assumption) (by first | exact fun _ h => h | exact fun _ h => .tail _ h | exact fun _ h => .tail _ (.tail _ h) | exact fun _ h => .tail _ (.tail _ (.tail _ h)) | exact fun _ h => .tail _ (.tail _ (.tail _ (.tail _ h))) | exact fun _ h => .tail _ (.tail _ (.tail _ (.tail _ (.tail _ h)))) | exact fun _ h => .tail _ (.tail _ (.tail _ (.tail _ (.tail _ (.tail _ h))))) | exact fun _ h => .tail _ (.tail _ (.tail _ (.tail _ (.tail _ (.tail _ (.tail _ h)))))) | exact fun _ h => .tail _ (.tail _ (.tail _ (.tail _ (.tail _ (.tail _ (.tail _ (.tail _ h))))))) | exact fun _ h => .tail _ (.tail _ (.tail _ (.tail _ (.tail _ (.tail _ (.tail _ (.tail _ (.tail _ h)))))))) | exact fun _ h => .tail _ (.tail _ (.tail _ (.tail _ (.tail _ (.tail _ (.tail _ (.tail _ (.tail _ (.tail _ h))))))))) | exact fun _ h => .tail _ (.tail _ (.tail _ (.tail _ (.tail _ (.tail _ (.tail _ (.tail _ (.tail _ (.tail _ (.tail _ h)))))))))) | exact fun _ h => .tail _ (.tail _ (.tail _ (.tail _ (.tail _ (.tail _ (.tail _ (.tail _ (.tail _ (.tail _ (.tail _ (.tail _ h))))))))))) | exact fun _ h => .tail _ (.tail _ (.tail _ (.tail _ (.tail _ (.tail _ (.tail _ (.tail _ (.tail _ (.tail _ (.tail _ (.tail _ (.tail _ h)))))))))))) | exact fun _ h => .tail _ (.tail _ (.tail _ (.tail _ (.tail _ (.tail _ (.tail _ (.tail _ (.tail _ (.tail _ (.tail _ (.tail _ (.tail _ (.tail _ h))))))))))))) | exact fun _ h => .tail _ (.tail _ (.tail _ (.tail _ (.tail _ (.tail _ (.tail _ (.tail _ (.tail _ (.tail _ (.tail _ (.tail _ (.tail _ (.tail _ (.tail _ h))))))))))))))) | exact Or.inl rfl); (case k6 => first | exact rfl | assumption); (case k7 => first | ((try dsimp only [Mine.ktrX]); (try simp only [depth_under_make, depth_under_kw, depth_in1, depth_deeper, depth_caller]); (try dsimp only [Mine.ktrX]); omega) | ((try dsimp only [Mine.ktrX] at *); ktr_room)); (case k8 => first | ((try dsimp only [Mine.ktrX]); (try simp only [units_in1, units_deeper, Around.mark_units, units_caller]); (try dsimp only [Mine.ktrX]); omega) | ((try dsimp only [Mine.ktrX] at *); ktr_units)); (case m1 => with_reducible assumption); (case m2 => first | assumption | exact List.Mem.head _ | exact .tail _ (by assumption) | exact .tail _ (.head _) | exact .tail _ (.tail _ (by assumption)) | exact .tail _ (.tail _ (.head _)) | exact .tail _ (.tail _ (.tail _ (by assumption))) | exact .tail _ (.tail _ (.tail _ (.head _))) | exact .tail _ (.tail _ (.tail _ (.tail _ (by assumption)))) | exact .tail _ (.tail _ (.tail _ (.tail _ (.head _)))) | exact .tail _ (.tail _ (.tail _ (.tail _ (.tail _ (by assumption))))) | exact .tail _ (.tail _ (.tail _ (.tail _ (.tail _ (.head _))))) | exact .tail _ (.tail _ (.tail _ (.tail _ (.tail _ (.tail _ (by assumption)))))) | exact .tail _ (.tail _ (.tail _ (.tail _ (.tail _ (.tail _ (.head _)))))) | exact .tail _ (.tail _ (.tail _ (.tail _ (.tail _ (.tail _ (.tail _ (by assumption))))))) | exact .tail _ (.tail _ (.tail _ (.tail _ (.tail _ (.tail _ (.tail _ (.head _))))))) | k_mem); (all_goals skip); (first | with_reducible exact Mine.WAll.w0 (by assumption) | with_reducible exact Mine.WAll.wb (by assumption) | with_reducible exact Mine.WAll.wb2 (by assumption) | with_reducible exact Mine.WAll.p (by assumption) | with_reducible exact Mine.WAll.m1 (by assumption) | with_reducible exact Mine.WAll.m2 (by assumption) | with_reducible exact Mine.WAll.m3 (by assumption) | with_reducible exact Mine.f_w0 | with_reducible exact Mine.f_wb | with_reducible exact Mine.f_wb2 | with_reducible exact Mine.f_v0 | with_reducible exact Mine.f_vb | with_reducible exact Mine.f_vb2 | with_reducible exact Mine.f_p | with_reducible exact Mine.f_q | with_reducible exact Mine.f_m1 | with_reducible exact Mine.f_m2 | with_reducible exact Mine.f_m3 | with_reducible exact Mine.f_m4 | with_reducible exact Mine.f_m5 | with_reducible exact Mine.f_k1 | with_reducible exact Mine.f_k2 | with_reducible exact Mine.f_k3 | with_reducible exact (Mine.b_all _).s0 | with_reducible exact (Mine.b_all _).sb | with_reducible exact (Mine.b_all _).r0 | with_reducible exact (Mine.b_all _).rb | with_reducible exact (Mine.b_all _).ok | decide | with_reducible exact PySem.IntMulOk.of_left (by decide) | assumption | omega | rotate_left); (first | with_reducible exact Mine.WAll.w0 (by assumption) | with_reducible exact Mine.WAll.wb (by assumption) | with_reducible exact Mine.WAll.wb2 (by assumption) | with_reducible exact Mine.WAll.p (by assumption) | with_reducible exact Mine.WAll.m1 (by assumption) | with_reducible exact Mine.WAll.m2 (by assumption) | with_reducible exact Mine.WAll.m3 (by assumption) | with_reducible exact Mine.f_w0 | with_reducible exact Mine.f_wb | with_reducible exact Mine.f_wb2 | with_reducible exact Mine.f_v0 | with_reducible exact Mine.f_vb | with_reducible exact Mine.f_vb2 | with_reducible exact Mine.f_p | with_reducible exact Mine.f_q | with_reducible exact Mine.f_m1 | with_reducible exact Mine.f_m2 | with_reducible exact Mine.f_m3 | with_reducible exact Mine.f_m4 | with_reducible exact Mine.f_m5 | with_reducible exact Mine.f_k1 | with_reducible exact Mine.f_k2 | with_reducible exact Mine.f_k3 | with_reducible exact (Mine.b_all _).s0 | with_reducible exact (Mine.b_all _).sb | with_reducible exact (Mine.b_all _).r0 | with_reducible exact (Mine.b_all _).rb | with_reducible exact (Mine.b_all _).ok | decide | with_reducible exact PySem.IntMulOk.of_left (by decide) | assumption | omega | rotate_left); (first | with_reducible exact Mine.WAll.w0 (by assumption) | with_reducible exact Mine.WAll.wb (by assumption) | with_reducible exact Mine.WAll.wb2 (by assumption) | with_reducible exact Mine.WAll.p (by assumption) | with_reducible exact Mine.WAll.m1 (by assumption) | with_reducible exact Mine.WAll.m2 (by assumption) | with_reducible exact Mine.WAll.m3 (by assumption) | with_reducible exact Mine.f_w0 | with_reducible exact Mine.f_wb | with_reducible exact Mine.f_wb2 | with_reducible exact Mine.f_v0 | with_reducible exact Mine.f_vb | with_reducible exact Mine.f_vb2 | with_reducible exact Mine.f_p | with_reducible exact Mine.f_q | with_reducible exact Mine.f_m1 | with_reducible exact Mine.f_m2 | with_reducible exact Mine.f_m3 | with_reducible exact Mine.f_m4 | with_reducible exact Mine.f_m5 | with_reducible exact Mine.f_k1 | with_reducible exact Mine.f_k2 | with_reducible exact Mine.f_k3 | with_reducible exact (Mine.b_all _).s0 | with_reducible exact (Mine.b_all _).sb | with_reducible exact (Mine.b_all _).r0 | with_reducible exact (Mine.b_all _).rb | with_reducible exact (Mine.b_all _).ok | decide | with_reducible exact PySem.IntMulOk.of_left (by decide) | assumption | omega | rotate_left); (first | with_reducible exact Mine.WAll.w0 (by assumption) | with_reducible exact Mine.WAll.wb (by assumption) | with_reducible exact Mine.WAll.wb2 (by assumption) | with_reducible exact Mine.WAll.p (by assumption) | with_reducible exact Mine.WAll.m1 (by assumption) | with_reducible exact Mine.WAll.m2 (by assumption) | with_reducible exact Mine.WAll.m3 (by assumption) | with_reducible exact Mine.f_w0 | with_reducible exact Mine.f_wb | with_reducible exact Mine.f_wb2 | with_reducible exact Mine.f_v0 | with_reducible exact Mine.f_vb | with_reducible exact Mine.f_vb2 | with_reducible exact Mine.f_p | with_reducible exact Mine.f_q | with_reducible exact Mine.f_m1 | with_reducible exact Mine.f_m2 | with_reducible exact Mine.f_m3 | with_reducible exact Mine.f_m4 | with_reducible exact Mine.f_m5 | with_reducible exact Mine.f_k1 | with_reducible exact Mine.f_k2 | with_reducible exact Mine.f_k3 | with_reducible exact (Mine.b_all _).s0 | with_reducible exact (Mine.b_all _).sb | with_reducible exact (Mine.b_all _).r0 | with_reducible exact (Mine.b_all _).rb | with_reducible exact (Mine.b_all _).ok | decide | with_reducible exact PySem.IntMulOk.of_left (by decide) | assumption | omega | rotate_left)); intro D9 p9 h9 tk9 V9 F9 N9; (try dsimp only); (try k_fold)))
local macro_rules | `(tactic| walk_at "call ref") => `(tactic| (k_here; (with_reducible show wpAny _ _ (call (Value.ref 86) _) _ _ _); k_dflt (refine' Mine.Ctr.use (Mine.c_fme_neg _ _ _ _ _ _ ?m1) ?k1 ?k2 ?k3 ?k4 ?k5 ?k6 ?k7 ?k8 ?k9 ?_; (case k1 => k_asm); (case k2 => k_asm); (case k3 => k_asm); (case k4 => k_asm); (case k5 => k_asm); (case k9 => first | assumption | exact Mine.CalmN.sub (by assumption) (by first | exact fun _ h => h | exact fun _ h => .tail _ h | exact fun _ h => .tail _ (.tail _ h) | exact fun _ h => .tail _ (.tail _ (.tail _ h)) | exact fun _ h => .tail _ (.tail _ (.tail _ (.tail _ h))) | exact fun _ h => .tail _ (.tail _ (.tail _ (.tail _ (.tail _ h)))) | exact fun _ h => .tail _ (.tail _ (.tail _ (.tail _ (.tail _ (.tail _ h))))) | exact fun _ h => .tail _ (.tail _ (.tail _ (.tail _ (.tail _ (.tail _ (.tail _ h)))))) | exact fun _ h => .tail _ (.tail _ (.tail _ (.tail _ (.tail _ (.tail _ (.tail _ (.tail _ h))))))) | exact fun _ h => .tail _ (.tail _ (.tail _ (.tail _ (.tail _ (.tail _ (.tail _ (.tail _ (.tail _ h)))))))) | exact fun _ h => .tail _ (.tail _ (.tail _ (.tail _ (.tail _ (.tail _ (.tail _ (.tail _ (.tail _ (.tail _ h))))))))) | exact fun _ h => .tail _ (.tail _ (.tail _ (.tail _ (.tail _ (.tail _ (.tail _ (.tail _ (.tail _ (.tail _ (.tail _ h)))))))))) | exact fun _ h => .tail _ (.tail _ (.tail _ (.tail _ (.tail _ (.tail _ (.tail _ (.tail _ (.tail _ (.tail _ (.tail _ (.tail _ h))))))))))) | exact fun _ h => .tail _ (.tail _ (.tail _ (.tail _ (.tail _ (.tail _ (.tail _ (.tail _ (.tail _ (.tail _ (.tail _ (.tail _ (.tail _ h)))))))))))) | exact fun _ h => .tail _ (.tail _ (.tail _ (.tail _ (.tail _ (.tail _ (.tail _ (.tail _ (.tail _ (.tail _ (.tail _ (.tail _ (.tail _ (.tail _ h))))))))))))) | exact fun _ h => .tail _ (.tail _ (.tail _ (.tail _ (.tail _ (.tail _ (.tail _ (.tail _ (.tail _ (.tail _ (.tail _ (.tail _ (.tail _ (.tail _ (.tail _ h))))))))))))))) | exact Or.inl rfl); (case k6 => first | exact rfl | assumption); (case k7 => first | ((try dsimp only [Mine.ktrX]); (try simp only [depth_under_make, depth_under_kw, depth_in1, depth_deeper, depth_caller]); (try dsimp only [Mine.ktrX]); omega) | ((try dsimp only [Mine.ktrX] at *); ktr_room)); (case k8 => first | ((try dsimp only [Mine.ktrX]); (try simp only [units_in1, units_deeper, Around.mark_units, units_caller]); (try dsimp only [Mine.ktrX]); omega) | ((try dsimp only [Mine.ktrX] at *); ktr_units)); (case m1 => first | assumption | omega); (all_goals skip)); intro D9 t9 u9 v9 x9 h9 tk9 F9 N9; (try dsimp only); (try k_fold)))
local macro_rules | `(tactic| walk_at "call ref") => `(tactic| (k_here; (with_reducible show wpAny _ _ (call (Value.ref 176) _) _ _ _); k_dflt (refine' Mine.Ctr.use (Mine.c_hyp _ _ _ _ _ _ _ _ ?m1 ?m2 ?_) ?k1 ?k2 ?k3 ?k4 ?k5 ?k6 ?k7 ?k8 ?k9 ?_; (case k1 => k_asm); (case k2 => k_asm); (case k3 => k_asm); (case k4 => k_asm); (case k5 => k_asm); (case k9 => first | assumption | exact Mine.CalmN.sub (by assumption) (by first | exact fun _ h => h | exact fun _ h => .tail _ h | exact fun _ h => .tail _ (.tail _ h) | exact fun _ h => .tail _ (.tail _ (.tail _ h)) | exact fun _ h => .tail _ (.tail _ (.tail _ (.tail _ h))) | exact fun _ h => .tail _ (.tail _ (.tail _ (.tail _ (.tail _ h)))) | exact fun _ h => .tail _ (.tail _ (.tail _ (.tail _ (.tail _ (.tail _ h))))) | exact fun _ h => .tail _ (.tail _ (.tail _ (.tail _ (.tail _ (.tail _ (.tail _ h)))))) | exact fun _ h => .tail _ (.tail _ (.tail _ (.tail _ (.tail _ (.tail _ (.tail _ (.tail _ h))))))) | exact fun _ h => .tail _ (.tail _ (.tail _ (.tail _ (.tail _ (.tail _ (.tail _ (.tail _ (.tail _ h)))))))) | exact fun _ h => .tail _ (.tail _ (.tail _ (.tail _ (.tail _ (.tail _ (.tail _ (.tail _ (.tail _ (.tail _ h))))))))) | exact fun _ h => .tail _ (.tail _ (.tail _ (.tail _ (.tail _ (.tail _ (.tail _ (.tail _ (.tail _ (.tail _ (.tail _ h)))))))))) | exact fun _ h => .tail _ (.tail _ (.tail _ (.tail _ (.tail _ (.tail _ (.tail _ (.tail _ (.tail _ (.tail _ (.tail _ (.tail _ h))))))))))) | exact fun _ h => .tail _ (.tail _ (.tail _ (.tail _ (.tail _ (.tail _ (.tail _ (.tail _ (.tail _ (.tail _ (.tail _ (.tail _ (.tail _ h)))))))))))) | exact fun _ h => .tail _ (.tail _ (.tail _ (.tail _ (.tail _ (.tail _ (.tail _ (.tail _ (.tail _ (.tail _ (.tail _ (.tail _ (.tail _ (.tail _ h))))))))))))) | exact fun _ h => .tail _ (.tail _ (.tail _ (.tail _ (.tail _ (.tail _ (.tail _ (.tail _ (.tail _ (.tail _ (.tail _ (.tail _ (.tail _ (.tail _ (.tail _ h))))))))))))))) | exact Or.inl rfl); (case k6 => first | exact rfl | assumption); (case k7 => first | ((try dsimp only [Mine.ktrX]); (try simp only [depth_under_make, depth_under_kw, depth_in1, depth_deeper, depth_caller]); (try dsimp only [Mine.ktrX]); omega) | ((try dsimp only [Mine.ktrX] at *); ktr_room)); (case k8 => first | ((try dsimp only [Mine.ktrX]); (try simp only [units_in1, units_deeper, Around.mark_units, units_caller]); (try dsimp only [Mine.ktrX]); omega) | ((try dsimp only [Mine.ktrX] at *); ktr_units)); (case m1 => first | assumption | exact List.Mem.head _ | exact .tail _ (by assumption) | exact .tail _ (.head _) | exact .tail _ (.tail _ (by assumption)) | exact .tail _ (.tail _ (.head _)) | exact .tail _ (.tail _ (.tail _ (by assumption))) | exact .tail _ (.tail _ (.tail _ (.head _))) | exact .tail _ (.tail _ (.tail _ (.tail _ (by assumption)))) | exact .tail _ (.tail _ (.tail _ (.tail _ (.head _)))) | exact .tail _ (.tail _ (.tail _ (.tail _ (.tail _ (by assumption))))) | exact .tail _ (.tail _ (.tail _ (.tail _ (.tail _ (.head _))))) | exact .tail _ (.tail _ (.tail _ (.tail _ (.tail _ (.tail _ (by assumption)))))) | exact .tail _ (.tail _ (.tail _ (.tail _ (.tail _ (.tail _ (.head _)))))) | exact .tail _ (.tail _ (.tail _ (.tail _ (.tail _ (.tail _ (.tail _ (by assumption))))))) | exact .tail _ (.tail _ (.tail _ (.tail _ (.tail _ (.tail _ (.tail _ (.head _))))))) | k_mem); (case m2 => first | assumption | exact List.Mem.head _ | exact .tail _ (by assumption) | exact .tail _ (.head _) | exact .tail _ (.tail _ (by assumption)) | exact .tail _ (.tail _ (.head _)) | exact .tail _ (.tail _ (.tail _ (by assumption))) | exact .tail _ (.tail _ (.tail _ (.head _))) | exact .tail _ (.tail _ (.tail _ (.tail _ (by assumption)))) | exact .tail _ (.tail _ (.tail _ (.tail _ (.head _)))) | exact .tail _ (.tail _ (.tail _ (.tail _ (.tail _ (by assumption))))) | exact .tail _ (.tail _ (.tail _ (.tail _ (.tail _ (.head _))))) | exact .tail _ (.tail _ (.tail _ (.tail _ (.tail _ (.tail _ (by assumption)))))) | exact .tail _ (.tail _ (.tail _ (.tail _ (.tail _ (.tail _ (.head _)))))) | exact .tail _ (.tail _ (.tail _ (.tail _ (.tail _ (.tail _ (.tail _ (by assumption))))))) | exact .tail _ (.tail _ (.tail _ (.tail _ (.tail _ (.tail _ (.tail _ (.head _))))))) | k_mem); (all_goals skip); (first | with_reducible exact Mine.WAll.w0 (by assumption) | with_reducible exact Mine.WAll.wb (by assumption) | with_reducible exact Mine.WAll.wb2 (by assumption) | with_reducible exact Mine.WAll.p (by assumption) | with_reducible exact Mine.WAll.m1 (by assumption) | with_reducible exact Mine.WAll.m2 (by assumption) | with_reducible exact Mine.WAll.m3 (by assumption) | with_reducible exact Mine.f_w0 | with_reducible exact Mine.f_wb | with_reducible exact Mine.f_wb2 | with_reducible exact Mine.f_v0 | with_reducible exact Mine.f_vb | with_reducible exact Mine.f_vb2 | with_reducible exact Mine.f_p | with_reducible exact Mine.f_q | with_reducible exact Mine.f_m1 | with_reducible exact Mine.f_m2 | with_reducible exact Mine.f_m3 | with_reducible exact Mine.f_m4 | with_reducible exact Mine.f_m5 | with_reducible exact Mine.f_k1 | with_reducible exact Mine.f_k2 | with_reducible exact Mine.f_k3 | with_reducible exact (Mine.b_all _).s0 | with_reducible exact (Mine.b_all _).sb | with_reducible exact (Mine.b_all _).r0 | with_reducible exact (Mine.b_all _).rb | with_reducible exact (Mine.b_all _).ok | decide | with_reducible exact PySem.IntMulOk.of_left (by decide) | assumption | omega | rotate_left)); intro h9 tk9 F9 N9; (try dsimp only); (try k_fold)))
local macro_rules | `(tactic| walk_at "binaryOp Mult int int") => `(tactic| (refine PyProof.Rows.mul_int ?_ ?_; rotate_left; (first | with_reducible exact Mine.WAll.w0 (by assumption) | with_reducible exact Mine.WAll.wb (by assumption) | with_reducible exact Mine.WAll.wb2 (by assumption) | with_reducible exact Mine.WAll.p (by assumption) | with_reducible exact Mine.WAll.m1 (by assumption) | with_reducible exact Mine.WAll.m2 (by assumption) | with_reducible exact Mine.WAll.m3 (by assumption) | with_reducible exact Mine.f_w0 | with_reducible exact Mine.f_wb | with_reducible exact Mine.f_wb2 | with_reducible exact Mine.f_v0 | with_reducible exact Mine.f_vb | with_reducible exact Mine.f_vb2 | with_reducible exact Mine.f_p | with_reducible exact Mine.f_q | with_reducible exact Mine.f_m1 | with_reducible exact Mine.f_m2 | with_reducible exact Mine.f_m3 | with_reducible exact Mine.f_m4 | with_reducible exact Mine.f_m5 | with_reducible exact Mine.f_k1 | with_reducible exact Mine.f_k2 | with_reducible exact Mine.f_k3 | with_reducible exact (Mine.b_all _).s0 | with_reducible exact (Mine.b_all _).sb | with_reducible exact (Mine.b_all _).r0 | with_reducible exact (Mine.b_all _).rb | with_reducible exact (Mine.b_all _).ok | decide | with_reducible exact PySem.IntMulOk.of_left (by decide) | assumption | omega | rotate_left); (try dsimp only)))
local macro_rules | `(tactic| walk_at "binaryOp Pow int int") => `(tactic| (refine PyProof.Rows.pow_int ?_ ?_ ?_; (first | with_reducible exact Mine.WAll.w0 (by assumption) | with_reducible exact Mine.WAll.wb (by assumption) | with_reducible exact Mine.WAll.wb2 (by assumption) | with_reducible exact Mine.WAll.p (by assumption) | with_reducible exact Mine.WAll.m1 (by assumption) | with_reducible exact Mine.WAll.m2 (by assumption) | with_reducible exact Mine.WAll.m3 (by assumption) | with_reducible exact Mine.f_w0 | with_reducible exact Mine.f_wb | with_reducible exact Mine.f_wb2 | with_reducible exact Mine.f_v0 | with_reducible exact Mine.f_vb | with_reducible exact Mine.f_vb2 | with_reducible exact Mine.f_p | with_reducible exact Mine.f_q | with_reducible exact Mine.f_m1 | with_reducible exact Mine.f_m2 | with_reducible exact Mine.f_m3 | with_reducible exact Mine.f_m4 | with_reducible exact Mine.f_m5 | with_reducible exact Mine.f_k1 | with_reducible exact Mine.f_k2 | with_reducible exact Mine.f_k3 | with_reducible exact (Mine.b_all _).s0 | with_reducible exact (Mine.b_all _).sb | with_reducible exact (Mine.b_all _).r0 | with_reducible exact (Mine.b_all _).rb | with_reducible exact (Mine.b_all _).ok | decide | with_reducible exact PySem.IntMulOk.of_left (by decide) | assumption | omega | rotate_left); (first | with_reducible exact Mine.WAll.w0 (by assumption) | with_reducible exact Mine.WAll.wb (by assumption) | with_reducible exact Mine.WAll.wb2 (by assumption) | with_reducible exact Mine.WAll.p (by assumption) | with_reducible exact Mine.WAll.m1 (by assumption) | with_reducible exact Mine.WAll.m2 (by assumption) | with_reducible exact Mine.WAll.m3 (by assumption) | with_reducible exact Mine.f_w0 | with_reducible exact Mine.f_wb | with_reducible exact Mine.f_wb2 | with_reducible exact Mine.f_v0 | with_reducible exact Mine.f_vb | with_reducible exact Mine.f_vb2 | with_reducible exact Mine.f_p | with_reducible exact Mine.f_q | with_reducible exact Mine.f_m1 | with_reducible exact Mine.f_m2 | with_reducible exact Mine.f_m3 | with_reducible exact Mine.f_m4 | with_reducible exact Mine.f_m5 | with_reducible exact Mine.f_k1 | with_reducible exact Mine.f_k2 | with_reducible exact Mine.f_k3 | with_reducible exact (Mine.b_all _).s0 | with_reducible exact (Mine.b_all _).sb | with_reducible exact (Mine.b_all _).r0 | with_reducible exact (Mine.b_all _).rb | with_reducible exact (Mine.b_all _).ok | decide | with_reducible exact PySem.IntMulOk.of_left (by decide) | assumption | omega | rotate_left); (try dsimp only)))
namespace Mine
open PySem.Builtin.Int (intBits)
local macro_rules | `(tactic| walk_at "compareOp NotEq ref ref") => `(tactic| (k_here; (with_reducible show wpAny _ _ (compareOp CmpOp.NotEq (Value.ref _) (Value.ref _)) _ _ _); k_dflt (refine Mine.ne4 (by first | exact Mine.IsT4.of_V (by assumption) (by k_asm) (by first | assumption | exact List.Mem.head _ | exact .tail _ (by assumption) | exact .tail _ (.head _) | exact .tail _ (.tail _ (by assumption)) | exact .tail _ (.tail _ (.head _)) | exact .tail _ (.tail _ (.tail _ (by assumption))) | exact .tail _ (.tail _ (.tail _ (.head _))) | exact .tail _ (.tail _ (.tail _ (.tail _ (by assumption)))) | exact .tail _ (.tail _ (.tail _ (.tail _ (.head _)))) | exact .tail _ (.tail _ (.tail _ (.tail _ (.tail _ (by assumption))))) | exact .tail _ (.tail _ (.tail _ (.tail _ (.tail _ (.head _))))) | exact .tail _ (.tail _ (.tail _ (.tail _ (.tail _ (.tail _ (by assumption)))))) | exact .tail _ (.tail _ (.tail _ (.tail _ (.tail _ (.tail _ (.head _)))))) | exact .tail _ (.tail _ (.tail _ (.tail _ (.tail _ (.tail _ (.tail _ (by assumption))))))) | exact .tail _ (.tail _ (.tail _ (.tail _ (.tail _ (.tail _ (.tail _ (.head _))))))) | k_mem) (by k_in) | exact Mine.IsT4.of_news (by k_asm) (by k_mem)) (by first | exact Mine.IsT4.of_V (by assumption) (by k_asm) (by first | assumption | exact List.Mem.head _ | exact .tail _ (by assumption) | exact .tail _ (.head _) | exact .tail _ (.tail _ (by assumption)) | exact .tail _ (.tail _ (.head _)) | exact .tail _ (.tail _ (.tail _ (by assumption))) | exact .tail _ (.tail _ (.tail _ (.head _))) | exact .tail _ (.tail _ (.tail _ (.tail _ (by assumption)))) | exact .tail _ (.tail _ (.tail _ (.tail _ (.head _)))) | exact .tail _ (.tail _ (.tail _ (.tail _ (.tail _ (by assumption))))) | exact .tail _ (.tail _ (.tail _ (.tail _ (.tail _ (.head _))))) | exact .tail _ (.tail _ (.tail _ (.tail _ (.tail _ (.tail _ (by assumption)))))) | exact .tail _ (.tail _ (.tail _ (.tail _ (.tail _ (.tail _ (.head _)))))) | exact .tail _ (.tail _ (.tail _ (.tail _ (.tail _ (.tail _ (.tail _ (by assumption))))))) | exact .tail _ (.tail _ (.tail _ (.tail _ (.tail _ (.tail _ (.tail _ (.head _))))))) | k_mem) (by k_in) | exact Mine.IsT4.of_news (by k_asm) (by k_mem)) (by ktr_units) ?_)))
theorem calm_exc {e : Addr} {o : Obj} {vs : Array Value} {news : List (Addr × Obj)} {h₀ h : Heap} {L : Addr} (hd : o.data = .fields vs) (h2 : vs[2]? = some Value.none) (_ : News h₀ L h ((e, o) :: news)) : CalmN (some (.ref e)) ((e, o) :: news) :=
  .inr ⟨e, o, vs, rfl, .head _, hd, h2⟩
local macro_rules | `(tactic| walk_at "noteFrame ref") => `(tactic| (k_here; (rename Mine.RaisedX _ _ _ _ _ _ => rkX); (with_reducible show wpAny _ _ (noteFrame _ _) (fun _ s₂ => wpAny _ _ (setFlight _ none) (fun _ s₃ => wpAny _ _ (handleBy _ _ (ExceptHandler.ExceptHandler (some (Expr.Name _ _)) none _ _ :: _)) _ _ s₃) _ s₂) _ _); k_dflt (refine' Mine.caughtX (bmB := [.type "ValueError", .type "Exception", .type "BaseException", .type "object"]) (newId := "ValueError.__new__") ?K ?F ?U ?R ?X ?T ?ex ?q ?hb ?_; (case K => assumption); (case F => assumption); (case U => assumption); (case R => exact rkX); (case X => k_asm); (case T => k_asm); (case ex => k_is); (case q => k_exc); (case hb => rfl); k_whole); intro h' o' vs' hod' hov' F' N'; have cN' := Mine.calm_exc hod' hov' N'; (try dsimp only)))
local macro_rules | `(tactic| walk_at "subscriptTail") => `(tactic| (k_here; (with_reducible show wpAny _ _ (subscriptTail _ _ (Value.str (Str.ofString "nfcud") _) (Value.int (Int.fmod _ _) _)) _ _ _); k_dflt (refine Mine.pick_way ?_ (by with_unfolding_all rfl) (by intro _; with_unfolding_all rfl)); intro wy9; (try dsimp only)))
local macro_rules | `(tactic| walk_at "subscriptTail Constant BinOp str int") => `(tactic| (k_here; (with_reducible show wpAny _ _ (subscriptTail _ _ (Value.str _ _) (Value.int (Int.fmod _ _) _)) _ _ _); k_dflt (refine Mine.pick_way ?_ (by with_unfolding_all rfl) (by intro _; with_unfolding_all rfl)); intro wy9; (try dsimp only)))
local macro_rules | `(tactic| walk_at "exec If") => `(tactic| (k_here; (with_reducible show wpAny _ _ (exec (Stmt.If (Expr.Compare (Expr.Name (Str.ofString "kind") _) _ _ _) _ _ _) _) _ _ _); (fail_if_success (have q9 : Mine.IfMark := by with_reducible assumption)); (rename Fr _ _ _ _ => lF'); (rename News _ _ _ _ => lN'); refine Mine.if_cut lF' lN' rfl (fun mk9 => ?_) ?_; rotate_left; (intro h9 tk9 W9 P9 tW9 tP9 hW9 F9 N9; clear lF' lN'; (try dsimp only)); rotate_left))
set_option maxRecDepth 100000 in
set_option maxHeartbeats 8000000 in
theorem law_holds : PySem.Challenge.rw_bw0027_01.Holds := hd (by
  k_go0
  (all_goals try k_fold)
  k_with_none
  w_top off
  repeat' (first | (k_unfold; (try dsimp only)) | walk1 | (dsimp only; walk1) | (leave1; try dsimp only) | fail "no step")
  all_goals first
    | (rename Fr _ _ _ _ => lF; rename News _ _ _ _ => lN; first
        | exact if_end lF lN (by first | exact fun _ h => h | exact fun _ h => .tail _ h | exact fun _ h => .tail _ (.tail _ h) | exact fun _ h => .tail _ (.tail _ (.tail _ h)) | exact fun _ h => .tail _ (.tail _ (.tail _ (.tail _ h))) | exact fun _ h => .tail _ (.tail _ (.tail _ (.tail _ (.tail _ h)))) | exact fun _ h => .tail _ (.tail _ (.tail _ (.tail _ (.tail _ (.tail _ h))))) | exact fun _ h => .tail _ (.tail _ (.tail _ (.tail _ (.tail _ (.tail _ (.tail _ h)))))) | exact fun _ h => .tail _ (.tail _ (.tail _ (.tail _ (.tail _ (.tail _ (.tail _ (.tail _ h))))))) | exact fun _ h => .tail _ (.tail _ (.tail _ (.tail _ (.tail _ (.tail _ (.tail _ (.tail _ (.tail _ h)))))))) | exact fun _ h => .tail _ (.tail _ (.tail _ (.tail _ (.tail _ (.tail _ (.tail _ (.tail _ (.tail _ (.tail _ h))))))))) | exact fun _ h => .tail _ (.tail _ (.tail _ (.tail _ (.tail _ (.tail _ (.tail _ (.tail _ (.tail _ (.tail _ (.tail _ h)))))))))) | exact fun _ h => .tail _ (.tail _ (.tail _ (.tail _ (.tail _ (.tail _ (.tail _ (.tail _ (.tail _ (.tail _ (.tail _ (.tail _ h))))))))))) | exact fun _ h => .tail _ (.tail _ (.tail _ (.tail _ (.tail _ (.tail _ (.tail _ (.tail _ (.tail _ (.tail _ (.tail _ (.tail _ (.tail _ h)))))))))))) | exact fun _ h => .tail _ (.tail _ (.tail _ (.tail _ (.tail _ (.tail _ (.tail _ (.tail _ (.tail _ (.tail _ (.tail _ (.tail _ (.tail _ (.tail _ h))))))))))))) | exact fun _ h => .tail _ (.tail _ (.tail _ (.tail _ (.tail _ (.tail _ (.tail _ (.tail _ (.tail _ (.tail _ (.tail _ (.tail _ (.tail _ (.tail _ (.tail _ h))))))))))))))) rfl rfl (fun _ _ _ => rfl) w_all0
        | exact if_end lF lN (by first | exact fun _ h => h | exact fun _ h => .tail _ h | exact fun _ h => .tail _ (.tail _ h) | exact fun _ h => .tail _ (.tail _ (.tail _ h)) | exact fun _ h => .tail _ (.tail _ (.tail _ (.tail _ h))) | exact fun _ h => .tail _ (.tail _ (.tail _ (.tail _ (.tail _ h)))) | exact fun _ h => .tail _ (.tail _ (.tail _ (.tail _ (.tail _ (.tail _ h))))) | exact fun _ h => .tail _ (.tail _ (.tail _ (.tail _ (.tail _ (.tail _ (.tail _ h)))))) | exact fun _ h => .tail _ (.tail _ (.tail _ (.tail _ (.tail _ (.tail _ (.tail _ (.tail _ h))))))) | exact fun _ h => .tail _ (.tail _ (.tail _ (.tail _ (.tail _ (.tail _ (.tail _ (.tail _ (.tail _ h)))))))) | exact fun _ h => .tail _ (.tail _ (.tail _ (.tail _ (.tail _ (.tail _ (.tail _ (.tail _ (.tail _ (.tail _ h))))))))) | exact fun _ h => .tail _ (.tail _ (.tail _ (.tail _ (.tail _ (.tail _ (.tail _ (.tail _ (.tail _ (.tail _ (.tail _ h)))))))))) | exact fun _ h => .tail _ (.tail _ (.tail _ (.tail _ (.tail _ (.tail _ (.tail _ (.tail _ (.tail _ (.tail _ (.tail _ (.tail _ h))))))))))) | exact fun _ h => .tail _ (.tail _ (.tail _ (.tail _ (.tail _ (.tail _ (.tail _ (.tail _ (.tail _ (.tail _ (.tail _ (.tail _ (.tail _ h)))))))))))) | exact fun _ h => .tail _ (.tail _ (.tail _ (.tail _ (.tail _ (.tail _ (.tail _ (.tail _ (.tail _ (.tail _ (.tail _ (.tail _ (.tail _ (.tail _ h))))))))))))) | exact fun _ h => .tail _ (.tail _ (.tail _ (.tail _ (.tail _ (.tail _ (.tail _ (.tail _ (.tail _ (.tail _ (.tail _ (.tail _ (.tail _ (.tail _ (.tail _ h))))))))))))))) rfl rfl (fun q h1 h2 => by simp only [h1, h2, if_false]) w_all1)
    | (exfalso; first
        | exact law_eq _ _ _ _ (by assumption)
        | exact absurd (b_all _).e1 (by assumption)
        | exact absurd (b_all _).e2 (by assumption)
        | exact absurd (b_all _).e3 (by assumption)
        | exact absurd (b_all _).e4 (by assumption)
        | exact absurd rfl (by assumption)
        | (with_reducible show GoodW _ _ _ _ _ _ _; fail "true")
        | omega)
    | ((with_reducible show GoodW _ _ _ _ _ _ _); (refine goodW_bool (by with_reducible assumption) (by with_reducible assumption) (raisesW_false ?_) ?_); (· wrow_none_raised); (· kc_post))
    | fail)
end Mine

end
set_option maxRecDepth 100000 in
set_option maxHeartbeats 8000000 in
theorem PySem.Challenge.cw_bw0027_01_holds : PySem.Challenge.rw_bw0027_01.Holds := by
  exact Mine.law_holds
