import Derived.WalkKit
import Derived.Laws.BitsAllLaws
/-! Uvarints as plain lists of bytes: writing and reading. No Go in sight. -/
namespace Go.Proofs.Qxb6001295aMods

/-- The uvarint of x, with at most f bytes ahead of the last. -/
def uvF : Nat → Nat → List UInt8
  | 0, x => [UInt8.ofNat x]
  | f + 1, x => if 128 ≤ x then UInt8.ofNat (x % 128 + 128) :: uvF f (x / 128) else [UInt8.ofNat x]
def uv (x : Nat) : List UInt8 := uvF 9 x

theorem uvF_more {f x : Nat} (h : 128 ≤ x) : uvF (f + 1) x = UInt8.ofNat (x % 128 + 128) :: uvF f (x / 128) := by simp [uvF, h]
theorem uvF_last {f x : Nat} (h : x < 128) : uvF f x = [UInt8.ofNat x] := by
  cases f with
  | zero => rfl
  | succ f => simp [uvF, show ¬ 128 ≤ x by omega]
theorem uvF_len (f x : Nat) : 1 ≤ (uvF f x).length ∧ (uvF f x).length ≤ f + 1 := by
  induction f generalizing x with
  | zero => simp [uvF]
  | succ f ih =>
    unfold uvF
    split
    · have := ih (x / 128); simp; omega
    · simp
theorem uv_len (x : Nat) : 1 ≤ (uv x).length ∧ (uv x).length ≤ 10 := uvF_len 9 x

/-- Where m bytes have been written and more than seven bits are left, there is room for one more. -/
theorem room {m r : Nat} (hm : m ≤ 9) (hr : r * 128 ^ m < 18446744073709551616) (h : 128 ≤ r) : m ≤ 8 := by
  rcases Nat.lt_or_ge m 9 with h9 | h9
  · omega
  · have : m = 9 := by omega
    subst this
    rw [show (128 : Nat) ^ 9 = 9223372036854775808 from by decide] at hr
    omega

theorem next_lt {m r : Nat} (hr : r * 128 ^ m < 18446744073709551616) : r / 128 * 128 ^ (m + 1) < 18446744073709551616 := by
  have e : r / 128 * 128 ^ (m + 1) = r / 128 * 128 * 128 ^ m := by rw [Nat.pow_succ, Nat.mul_comm (128 ^ m) 128, Nat.mul_assoc]
  rw [e]
  exact Nat.lt_of_le_of_lt (Nat.mul_le_mul_right _ (Nat.div_mul_le_self r 128)) hr

theorem lt_of_room {m r : Nat} (hr : r * 128 ^ m < 18446744073709551616) : r < 18446744073709551616 :=
  Nat.lt_of_le_of_lt (Nat.le_mul_of_pos_right r (Nat.pow_pos (by omega))) hr

theorem and127_u64 (r : Nat) (h : r < 18446744073709551616) : bits .and .u64 (r : Int) 127 = ((r % 128 : Nat) : Int) := by
  have := u64_and_nat r 127 h (by omega)
  rw [show ((127 : Nat) : Int) = 127 from rfl] at this
  rw [this, Nat.and_two_pow_sub_one_eq_mod r 7]
theorem and127_u8 (c : Nat) (h : c < 256) : bits .and .u8 (c : Int) 127 = ((c % 128 : Nat) : Int) := by
  have := u8_and_nat c 127 h (by omega)
  rw [show ((127 : Nat) : Int) = 127 from rfl] at this
  rw [this, Nat.and_two_pow_sub_one_eq_mod c 7]
theorem or128_u8 (q : Nat) (h : q < 128) : bits .or .u8 (q : Int) 128 = ((q + 128 : Nat) : Int) := by
  have := u8_or_nat q 128 (by omega) (by omega)
  rw [show ((128 : Nat) : Int) = 128 from rfl] at this
  rw [this, Nat.or_comm, show (128 : Nat) ||| q = 2 ^ 7 * 1 ||| q from rfl, ← Nat.two_pow_add_eq_or_of_lt (by omega)]
  omega

theorem pow128 (k : Nat) : (2 : Nat) ^ (7 * k) = 128 ^ k := by rw [Nat.pow_mul]

/-- 'n |= q << (7*k)' where n has 7*k bits and the whole fits. -/
theorem or_shift (t q k : Nat) (ht : t < 128 ^ k) (hq : q * 128 ^ k + t < 18446744073709551616) :
    bits .or .u64 (t : Int) (IntKind.u64.wrap ((q : Int) * 2 ^ (7 * k))) = ((q * 128 ^ k + t : Nat) : Int) := by
  have e1 : ((q : Int) * 2 ^ (7 * k)) = ((q * 128 ^ k : Nat) : Int) := by rw [← pow128]; simp
  rw [e1, IntKind.wrap_u64, Int.emod_eq_of_lt (by omega) (by omega), u64_or_nat t (q * 128 ^ k) (by omega) (by omega)]
  rw [← pow128] at ht ⊢
  rw [Nat.or_comm, Nat.mul_comm q, ← Nat.two_pow_add_eq_or_of_lt ht]

/-- x is what has been read, and what is left. -/
theorem mod_next (x k : Nat) : x % 128 ^ (k + 1) = x / 128 ^ k % 128 * 128 ^ k + x % 128 ^ k := by
  rw [Nat.pow_succ, Nat.mod_mul, Nat.mul_comm (128 ^ k), Nat.add_comm]
theorem div_next (x k : Nat) : x / 128 ^ (k + 1) = x / 128 ^ k / 128 := by rw [Nat.pow_succ, Nat.div_div_eq_div_mul]
theorem whole (x k : Nat) : x / 128 ^ k * 128 ^ k + x % 128 ^ k = x := by rw [Nat.mul_comm]; exact Nat.div_add_mod x _

theorem div_room (x k : Nat) (hx : x < 18446744073709551616) : x / 128 ^ k * 128 ^ k < 18446744073709551616 :=
  Nat.lt_of_le_of_lt (Nat.div_mul_le_self x _) hx

end Go.Proofs.Qxb6001295aMods
