/- Plain mathematics: bits of one octet taken at once. No Go text here. -/
import Derived.Test.Qxb6614317aFmtPlain
namespace Go.Proofs.Qxb6614317aFmt

theorem half_step (y t : Nat) : 2 * (y / 2 % 2 ^ t) + y % 2 = y % 2 ^ (t + 1) := by
  rw [Nat.pow_succ, Nat.mul_comm (2 ^ t) 2, Nat.mod_mul]
  omega

/-- Within one octet the bits are a piece of it. -/
theorem rd_piece (xs : List Int) (m : Nat) : ∀ t, t ≤ 8 - m % 8 → rd xs m t = ((xs.getD (m / 8) 0).toNat / 2 ^ (8 - m % 8 - t)) % 2 ^ t
  | 0, _ => by simp [rd, Nat.mod_one]
  | t + 1, h => by
    have ih := rd_piece xs m t (by omega)
    have e1 : (m + t) / 8 = m / 8 := by omega
    have e2 : (m + t) % 8 = m % 8 + t := by omega
    have e3 : 7 - (m % 8 + t) = 8 - m % 8 - (t + 1) := by omega
    have e4 : 8 - m % 8 - t = (8 - m % 8 - (t + 1)) + 1 := by omega
    rw [rd, ih, bitAt, e1, e2, e3, e4, Nat.pow_succ, ← Nat.div_div_eq_div_mul, half_step]

theorem u64_mask (A t : Nat) (hA : A < 18446744073709551616) (ht : t ≤ 8) : bits .and .u64 (A : Int) (IntKind.u64.wrap (IntKind.u64.wrap (2 ^ t) - 1)) = ((A % 2 ^ t : Nat) : Int) := by
  have hp : 2 ^ t ≤ 2 ^ 8 := Nat.pow_le_pow_right (by decide) ht
  have hp1 : 0 < 2 ^ t := Nat.pow_pos (by decide)
  have e : ((2 : Int) ^ t) = ((2 ^ t : Nat) : Int) := by simp
  rw [e, u64_wrap_id ((2 ^ t : Nat) : Int) (by omega) (by omega), u64_wrap_id (((2 ^ t : Nat) : Int) - 1) (by omega) (by omega)]
  have e2 : (((2 ^ t : Nat) : Int) - 1) = ((2 ^ t - 1 : Nat) : Int) := by omega
  rw [e2, u64_and_nat _ _ hA (by omega), Nat.and_two_pow_sub_one_eq_mod]

theorem piece_value (xs : List Int) (n j t : Nat) (hb : ∀ x ∈ xs, 0 ≤ x ∧ x ≤ 255) (ht : t ≤ 8 - (n + j) % 8) (hj : j + t ≤ 64) :
    bits .or .u64 (IntKind.u64.wrap ((rd xs n j : Int) * 2 ^ t)) (bits .and .u64 (IntKind.u64.wrap (xs[(n + j) / 8]?.getD 0) / 2 ^ (8 - (n + j) % 8 - t)) (IntKind.u64.wrap (IntKind.u64.wrap (2 ^ t) - 1))) = (rd xs n (j + t) : Int) := by
  have hx := byte_range xs hb ((n + j) / 8)
  have hp := rd_piece xs (n + j) t ht
  have hl := rd_lt64 xs n (j + t) hj
  rw [rd_add] at hl ⊢
  rw [List.getD] at hx hp
  generalize xs[(n + j) / 8]?.getD 0 = x at hx hp
  obtain ⟨x, rfl⟩ := Int.eq_ofNat_of_zero_le hx.1
  have e : ((2 : Int) ^ (8 - (n + j) % 8 - t)) = ((2 ^ (8 - (n + j) % 8 - t) : Nat) : Int) := by simp
  have e2 : ((x : Int) / ((2 ^ (8 - (n + j) % 8 - t) : Nat) : Int)) = ((x / 2 ^ (8 - (n + j) % 8 - t) : Nat) : Int) := by simp
  have hd : x / 2 ^ (8 - (n + j) % 8 - t) ≤ x := Nat.div_le_self _ _
  rw [u64_wrap_id (x : Int) (by omega) (by omega), e, e2, u64_mask _ _ (by omega) (by omega)]
  have hp' : rd xs (n + j) t = x / 2 ^ (8 - (n + j) % 8 - t) % 2 ^ t := hp
  rw [← hp', join_value _ _ _ (by omega) (rd_lt _ _ _) hl]

end Go.Proofs.Qxb6614317aFmt
