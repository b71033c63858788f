/- Plain facts on whole numbers that the walks of the field functions end in: bits of a word, numbers with a sign, fields joined. No program in sight. -/
import Derived.WalkKit
import Derived.Lib.Hide
import Derived.Laws.BitsAllLaws
namespace Go.Proofs.Ytcijejfekeedlaa

/-- The number of 'b' bits of 'x' (a word of 32 bits), from bit 'o' on, counted from the highest. -/
def fv (x o b : Int) : Int := x / 2 ^ (32 - o - b).toNat % 2 ^ b.toNat
/-- The word that a field names. -/
def ws (x0 x1 w : Int) : Int := if w = 0 then x0 else x1
/-- A number of 'b' bits read with its sign. -/
def sgn (n b : Int) : Int := if 2 ^ (b - 1).toNat ≤ n then n - 2 ^ b.toNat else n

theorem two_pos (n : Nat) : (0 : Int) < 2 ^ n := Int.pow_pos (by decide)
theorem two_le {m n : Nat} (h : m ≤ n) : (2 : Int) ^ m ≤ 2 ^ n := by
  have := Nat.pow_le_pow_right (n := 2) (by decide) h
  exact_mod_cast this
theorem two_add (m n : Nat) : (2 : Int) ^ (m + n) = 2 ^ m * 2 ^ n := Int.pow_add 2 m n
theorem fv_nonneg (x o b : Int) : 0 ≤ fv x o b := Int.emod_nonneg _ (Int.ne_of_gt (two_pos _))
theorem fv_lt (x o b : Int) : fv x o b < 2 ^ b.toNat := Int.emod_lt_of_pos _ (two_pos _)
theorem pow32 {b : Int} (h : b ≤ 32) : (2 : Int) ^ b.toNat ≤ 4294967296 := two_le (n := 32) (by omega)
theorem fv_lt32 {x o b : Int} (h : b ≤ 32) : fv x o b < 4294967296 := Int.lt_of_lt_of_le (fv_lt x o b) (pow32 h)
theorem ws_range {x0 x1 w : Int} (h0 : 0 ≤ x0 ∧ x0 < 4294967296) (h1 : 0 ≤ x1 ∧ x1 < 4294967296) : 0 ≤ ws x0 x1 w ∧ ws x0 x1 w < 4294967296 := by
  unfold ws; split <;> assumption

theorem emod_mul_eq (y M N : Int) (hM : 0 < M) (hN : 0 < N) : y % (M * N) = M * (y / M % N) + y % M := by
  have h1 : M * (y / M) + y % M = y := Int.mul_ediv_add_emod y M
  have h2 : N * (y / M / N) + y / M % N = y / M := Int.mul_ediv_add_emod _ _
  have b1 := Int.emod_nonneg y (Int.ne_of_gt hM)
  have b2 := Int.emod_lt_of_pos y hM
  have b3 := Int.emod_nonneg (y / M) (Int.ne_of_gt hN)
  have b4 := Int.emod_lt_of_pos (y / M) hN
  generalize y % M = s at *
  generalize y / M % N = r at *
  generalize y / M / N = k at *
  generalize y / M = q at *
  subst h2
  subst h1
  have e : M * (N * k + r) + s = (M * r + s) + M * N * k := by rw [Int.mul_add, Int.mul_assoc]; omega
  have hmr : 0 ≤ M * r := Int.mul_nonneg (Int.le_of_lt hM) b3
  have hle : M * (r + 1) ≤ M * N := Int.mul_le_mul_of_nonneg_left (by omega) (Int.le_of_lt hM)
  rw [Int.mul_add, Int.mul_one] at hle
  rw [e, Int.add_mul_emod_self_left, Int.emod_eq_of_lt (by omega) (by omega)]

/-- A field is its first bits, and behind them the others. -/
theorem fv_split (x o n m : Int) (_ho : 0 ≤ o) (hn : 0 ≤ n) (hm : 0 ≤ m) (h : o + n + m ≤ 32) : fv x o (n + m) = fv x o n * 2 ^ m.toNat + fv x (o + n) m := by
  unfold fv
  have e1 : (32 - o - (n + m)).toNat = (32 - (o + n) - m).toNat := by omega
  have e2 : (32 - o - n).toNat = (32 - (o + n) - m).toNat + m.toNat := by omega
  have e3 : (n + m).toNat = m.toNat + n.toNat := by omega
  rw [e1, e2, e3, two_add, two_add, ← Int.ediv_ediv_of_nonneg (Int.le_of_lt (two_pos _)), emod_mul_eq _ _ _ (two_pos _) (two_pos _), Int.mul_comm]
theorem fv_zero (x o : Int) : fv x o 0 = 0 := by unfold fv; simp [Int.emod_one]
/-- One bit more. -/
theorem fv_succ (x o n : Int) (ho : 0 ≤ o) (hn : 0 ≤ n) (h : o + n + 1 ≤ 32) : fv x o (n + 1) = 2 * fv x o n + x / 2 ^ (31 - (o + n)).toNat % 2 := by
  rw [fv_split x o n 1 ho hn (by omega) (by omega)]
  have e : fv x (o + n) 1 = x / 2 ^ (31 - (o + n)).toNat % 2 := by
    unfold fv
    have e1 : (32 - (o + n) - 1).toNat = (31 - (o + n)).toNat := by omega
    rw [e1]; rfl
  rw [e]
  show fv x o n * 2 ^ 1 + _ = _
  omega

theorem ofInt32 (a : Nat) (ha : a < 4294967296) : (BitVec.ofInt 32 (a : Int)).toNat = a := ofInt_u32 a ha
/-- A mask of the lowest n bits. -/
theorem mask32 (y : Int) (n : Nat) (h0 : 0 ≤ y) (h1 : y < 4294967296) (hn : n ≤ 32) : bits .and .u32 y ((2 ^ n - 1) % 4294967296) = y % 2 ^ n := by
  obtain ⟨Y, rfl⟩ := Int.eq_ofNat_of_zero_le h0
  have hp : (2 : Nat) ^ n ≤ 4294967296 := Nat.pow_le_pow_right (n := 2) (by decide) hn
  have hp0 : 0 < (2 : Nat) ^ n := Nat.two_pow_pos n
  have e : ((2 : Int) ^ n - 1) % 4294967296 = ((2 ^ n - 1 : Nat) : Int) := by
    have : (2 : Int) ^ n = ((2 ^ n : Nat) : Int) := by simp
    rw [this]; omega
  rw [e, u32_and_nat Y (2 ^ n - 1) (by omega) (by omega), Nat.and_two_pow_sub_one_eq_mod]
  simp
theorem fv_mask (x o b : Int) (h0 : 0 ≤ x) (h1 : x < 4294967296) (hb : b ≤ 32) : bits .and .u32 (x / 2 ^ (32 - o - b).toNat) ((2 ^ b.toNat - 1) % 4294967296) = fv x o b :=
  mask32 _ _ (Int.ediv_nonneg h0 (Int.le_of_lt (two_pos _))) (Int.lt_of_le_of_lt (Int.ediv_le_self _ h0) h1) (by omega)

theorem sgn_core (K M H n : Int) (hK : 0 < K) (hM : 0 < M) (hH : M * H = K) (h0 : 0 ≤ n) (h1 : n < 2 * H) :
    ((((n + K) % (2 * K) - K) * M + K) % (2 * K) - K) / M = if H ≤ n then n - 2 * H else n := by
  have e0 : (n + K) % (2 * K) - K = n - 2 * K * ((n + K) / (2 * K)) := by
    have := Int.mul_ediv_add_emod (n + K) (2 * K)
    omega
  generalize (n + K) / (2 * K) = t at e0
  have e1 : ((n - 2 * K * t) * M + K) = (n * M + K) - 2 * K * (t * M) := by rw [Int.sub_mul, Int.mul_assoc (2 * K)]; omega
  have e2 : ((n * M + K) - 2 * K * (t * M)) % (2 * K) = (n * M + K) % (2 * K) := Int.sub_mul_emod_self_left ..
  rw [e0, e1, e2]
  have hMH : H * M = K := by rw [Int.mul_comm]; exact hH
  by_cases h : H ≤ n
  · rw [if_pos h]
    have a1 : H * M ≤ n * M := Int.mul_le_mul_of_nonneg_right h (Int.le_of_lt hM)
    have a2 : (n + 1) * M ≤ (2 * H) * M := Int.mul_le_mul_of_nonneg_right (by omega) (Int.le_of_lt hM)
    rw [Int.add_mul, Int.one_mul, Int.mul_assoc, hMH] at a2
    have e3 : n * M + K = (n * M - K) + 2 * K * 1 := by omega
    have e4 : n * M - K - K = (n - 2 * H) * M := by rw [Int.sub_mul, Int.mul_assoc, hMH]; omega
    rw [e3, Int.add_mul_emod_self_left, Int.emod_eq_of_lt (by omega) (by omega), e4, Int.mul_ediv_cancel _ (by omega)]
  · rw [if_neg h]
    have a1 : (n + 1) * M ≤ H * M := Int.mul_le_mul_of_nonneg_right (by omega) (Int.le_of_lt hM)
    have a2 : 0 ≤ n * M := Int.mul_nonneg h0 (Int.le_of_lt hM)
    rw [Int.add_mul, Int.one_mul] at a1
    have e4 : n * M + K - K = n * M := by omega
    rw [Int.emod_eq_of_lt (by omega) (by omega), e4, Int.mul_ediv_cancel _ (by omega)]

theorem two_half (b : Int) (hb : 1 ≤ b) : (2 : Int) ^ b.toNat = 2 * 2 ^ (b - 1).toNat := by
  have e : b.toNat = (b - 1).toNat + 1 := by omega
  rw [e, two_add, Int.mul_comm]; rfl
theorem sgn32 (n b : Int) (hb : 1 ≤ b) (hb' : b ≤ 32) (h0 : 0 ≤ n) (h1 : n < 2 ^ b.toNat) : RowKit.wrap32 (RowKit.wrap32 n * 2 ^ (32 - b).toNat) / 2 ^ (32 - b).toNat = sgn n b := by
  have hH : (2 : Int) ^ (32 - b).toNat * 2 ^ (b - 1).toNat = 2147483648 := by
    rw [← two_add, show (32 - b).toNat + (b - 1).toNat = 31 by omega]; rfl
  have e := sgn_core 2147483648 (2 ^ (32 - b).toNat) (2 ^ (b - 1).toNat) n (by decide) (two_pos _) hH h0 (by rw [← two_half b hb]; exact h1)
  unfold sgn RowKit.wrap32
  rw [two_half b hb]
  exact e
theorem sgn64 (n b : Int) (hb : 1 ≤ b) (hb' : b ≤ 64) (h0 : 0 ≤ n) (h1 : n < 2 ^ b.toNat) : RowKit.wrap64 (RowKit.wrap64 n * 2 ^ (64 - b).toNat) / 2 ^ (64 - b).toNat = sgn n b := by
  have hH : (2 : Int) ^ (64 - b).toNat * 2 ^ (b - 1).toNat = 9223372036854775808 := by
    rw [← two_add, show (64 - b).toNat + (b - 1).toNat = 63 by omega]; rfl
  have e := sgn_core 9223372036854775808 (2 ^ (64 - b).toNat) (2 ^ (b - 1).toNat) n (by decide) (two_pos _) hH h0 (by rw [← two_half b hb]; exact h1)
  unfold sgn RowKit.wrap64
  rw [two_half b hb]
  exact e
theorem sgn_bounds (n b : Int) (hb : 1 ≤ b) (h0 : 0 ≤ n) (h1 : n < 2 ^ b.toNat) : -2 ^ (b - 1).toNat ≤ sgn n b ∧ sgn n b < 2 ^ (b - 1).toNat := by
  have := two_half b hb
  unfold sgn
  split <;> omega
theorem sgn_b32 (n b : Int) (hb : 1 ≤ b) (hb' : b ≤ 32) (h0 : 0 ≤ n) (h1 : n < 2 ^ b.toNat) : -2147483648 ≤ sgn n b ∧ sgn n b ≤ 2147483647 := by
  have h := sgn_bounds n b hb h0 h1
  have h2 : (2 : Int) ^ (b - 1).toNat ≤ 2147483648 := two_le (n := 31) (by omega)
  omega
end Go.Proofs.Ytcijejfekeedlaa
