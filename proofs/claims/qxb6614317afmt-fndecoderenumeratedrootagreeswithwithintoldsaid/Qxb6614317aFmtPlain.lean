/- Plain mathematics: the bits of a row of octets. No Go text here. -/
import Derived.WalkKit
import Derived.WalkSmall
namespace Go.Proofs.Qxb6614317aFmt

/-- The bit at place i, the highest of the first octet is place 0. -/
def bitAt (xs : List Int) (i : Nat) : Nat := ((xs.getD (i / 8) 0).toNat / 2 ^ (7 - i % 8)) % 2
/-- The number that k bits from place n on spell. -/
def rd (xs : List Int) (n : Nat) : Nat → Nat
  | 0 => 0
  | k + 1 => 2 * rd xs n k + bitAt xs (n + k)

theorem bitAt_le (xs : List Int) (i : Nat) : bitAt xs i < 2 := Nat.mod_lt _ (by decide)

theorem rd_lt (xs : List Int) (n : Nat) : ∀ k, rd xs n k < 2 ^ k
  | 0 => by simp [rd]
  | k + 1 => by
    have h := rd_lt xs n k
    have hb := bitAt_le xs (n + k)
    rw [rd, Nat.pow_succ]
    omega

theorem rd_lt64 (xs : List Int) (n k : Nat) (hk : k ≤ 64) : rd xs n k < 18446744073709551616 := by
  have h := rd_lt xs n k
  have : 2 ^ k ≤ 2 ^ 64 := Nat.pow_le_pow_right (by decide) hk
  have e : 2 ^ 64 = 18446744073709551616 := by decide
  omega

theorem u64_wrap_id (x : Int) (h0 : 0 ≤ x) (h1 : x < 18446744073709551616) : IntKind.u64.wrap x = x := by
  simp [IntKind.wrap, IntKind.bits, IntKind.signed]; omega

theorem u8_and_one (x : Int) (h0 : 0 ≤ x) (h1 : x < 256) : bits .and .u8 x 1 = x % 2 := by
  rw [u8_and x 1 h0 h1 (by decide) (by decide)]
  have : (1 : Int).toNat = 1 := rfl
  rw [this, Nat.and_one_is_mod]
  omega

theorem div_pow_bd (x : Int) (m : Nat) (h0 : 0 ≤ x) (h1 : x ≤ 255) : 0 ≤ x / 2 ^ m ∧ x / 2 ^ m < 256 := by
  obtain ⟨x, rfl⟩ := Int.eq_ofNat_of_zero_le h0
  have e : ((2 : Int) ^ m) = ((2 ^ m : Nat) : Int) := by simp
  rw [e]
  have h2 : ((x : Int) / ((2 ^ m : Nat) : Int)) = ((x / 2 ^ m : Nat) : Int) := by simp
  have h3 : x / 2 ^ m ≤ x := Nat.div_le_self _ _
  rw [h2]
  generalize x / 2 ^ m = y at h3
  omega

/-- One round of the loop in (*decoder).bits. -/
theorem round_value (x : Int) (m v : Nat) (h0 : 0 ≤ x) (h1 : x ≤ 255) (hv : v < 9223372036854775808) :
    bits .or .u64 (IntKind.u64.wrap ((v : Int) * 2)) (IntKind.u64.wrap (bits .and .u8 (x / 2 ^ m) 1)) = ((2 * v + (x.toNat / 2 ^ m) % 2 : Nat) : Int) := by
  obtain ⟨d0, d1⟩ := div_pow_bd x m h0 h1
  rw [u8_and_one _ d0 d1, u64_wrap_id _ (by omega) (by omega), u64_wrap_id _ (by omega) (by omega)]
  have e : x / 2 ^ m = ((x.toNat / 2 ^ m : Nat) : Int) := by
    obtain ⟨x, rfl⟩ := Int.eq_ofNat_of_zero_le h0
    simp
  rw [e]
  have e2 : ((v : Int) * 2) = ((2 * v : Nat) : Int) := by omega
  have e3 : (((x.toNat / 2 ^ m : Nat) : Int) % 2) = ((x.toNat / 2 ^ m % 2 : Nat) : Int) := by omega
  rw [e2, e3, u64_or_nat _ _ (by omega) (by omega), nat_join 1 _ _ (by omega) (by omega)]

theorem rd_succ_value (xs : List Int) (n j : Nat) (hb : ∀ x ∈ xs, 0 ≤ x ∧ x ≤ 255) (hj : j < 64) :
    bits .or .u64 (IntKind.u64.wrap ((rd xs n j : Int) * 2)) (IntKind.u64.wrap (bits .and .u8 (xs[(n + j) / 8]?.getD 0 / 2 ^ (7 - (n + j) % 8)) 1)) = (rd xs n (j + 1) : Int) := by
  have hx : 0 ≤ xs[(n + j) / 8]?.getD 0 ∧ xs[(n + j) / 8]?.getD 0 ≤ 255 := by
    cases h : xs[(n + j) / 8]? with
    | none => simp
    | some x => exact hb x (List.mem_of_getElem? h)
  have h := rd_lt xs n j
  have : 2 ^ j ≤ 2 ^ 63 := Nat.pow_le_pow_right (by decide) (by omega)
  rw [round_value _ _ _ hx.1 hx.2 (by omega)]
  simp [rd, bitAt]

theorem rd_add (xs : List Int) (n p : Nat) : ∀ q, rd xs n (p + q) = rd xs n p * 2 ^ q + rd xs (n + p) q
  | 0 => by simp [rd]
  | q + 1 => by
    have ih := rd_add xs n p q
    rw [← Nat.add_assoc, rd, rd, ih, Nat.pow_succ, Nat.add_assoc n p q]
    generalize 2 ^ q = Q
    rw [← Nat.mul_assoc]
    generalize rd xs n p * Q = A
    omega

theorem byte_range (xs : List Int) (hb : ∀ x ∈ xs, 0 ≤ x ∧ x ≤ 255) (i : Nat) : 0 ≤ xs.getD i 0 ∧ xs.getD i 0 ≤ 255 := by
  rw [List.getD]
  cases h : xs[i]? with
  | none => simp
  | some x => exact hb x (List.mem_of_getElem? h)

theorem rd_octet (xs : List Int) (n : Nat) (hb : ∀ x ∈ xs, 0 ≤ x ∧ x ≤ 255) (hn : n % 8 = 0) : rd xs n 8 = (xs.getD (n / 8) 0).toNat := by
  have hx := byte_range xs hb (n / 8)
  have e : ∀ i, i < 8 → bitAt xs (n + i) = ((xs.getD (n / 8) 0).toNat / 2 ^ (7 - i)) % 2 := by
    intro i hi
    have e1 : (n + i) / 8 = n / 8 := by omega
    have e2 : (n + i) % 8 = i := by omega
    rw [bitAt, e1, e2]
  have e0 := e 0 (by omega); have e1 := e 1 (by omega); have e2 := e 2 (by omega); have e3 := e 3 (by omega)
  have e4 := e 4 (by omega); have e5 := e 5 (by omega); have e6 := e 6 (by omega); have e7 := e 7 (by omega)
  simp only [rd, e0, e1, e2, e3, e4, e5, e6, e7]
  generalize xs.getD (n / 8) 0 = x at hx
  simp
  omega

theorem rd_top (xs : List Int) (n k : Nat) (hb : ∀ x ∈ xs, 0 ≤ x ∧ x ≤ 255) (hn : n % 8 = 0) (hk : 8 ≤ k) : rd xs n k / 2 ^ (k - 8) = (xs.getD (n / 8) 0).toNat := by
  have e : k = 8 + (k - 8) := by omega
  have h := rd_add xs n 8 (k - 8)
  rw [← e, rd_octet xs n hb hn] at h
  have hl := rd_lt xs (n + 8) (k - 8)
  have hp : 0 < 2 ^ (k - 8) := Nat.pow_pos (by decide)
  rw [h, Nat.add_comm, Nat.add_mul_div_right _ _ hp, Nat.div_eq_of_lt hl, Nat.zero_add]

theorem rd_shr (xs : List Int) (n p : Nat) : (rd xs n p : Int) / 2 ^ p = 0 := by
  have h := rd_lt xs n p
  have e : ((2 : Int) ^ p) = ((2 ^ p : Nat) : Int) := by simp
  rw [e]
  have e2 : ((rd xs n p : Int) / ((2 ^ p : Nat) : Int)) = ((rd xs n p / 2 ^ p : Nat) : Int) := by simp
  rw [e2, Nat.div_eq_of_lt h]
  rfl

theorem join_value (A B q : Nat) (hq : q ≤ 64) (hB : B < 2 ^ q) (h : A * 2 ^ q + B < 18446744073709551616) : bits .or .u64 (IntKind.u64.wrap ((A : Int) * 2 ^ q)) (B : Int) = ((A * 2 ^ q + B : Nat) : Int) := by
  have e : ((A : Int) * 2 ^ q) = ((A * 2 ^ q : Nat) : Int) := by simp
  have h1 : A * 2 ^ q % 2 ^ q = 0 := Nat.mul_mod_left _ _
  have hp : 2 ^ q ≤ 2 ^ 64 := Nat.pow_le_pow_right (by decide) hq
  rw [e]
  generalize A * 2 ^ q = C at *
  rw [u64_wrap_id _ (by omega) (by omega), u64_or_nat _ _ (by omega) (by omega), nat_join q _ _ h1 hB]

theorem split_value (xs : List Int) (n p q : Nat) (h : p + q ≤ 64) : (rd xs n (p + q) : Int) = bits .or .u64 (IntKind.u64.wrap ((rd xs n p : Int) * 2 ^ q)) (rd xs (n + p) q : Int) := by
  have hl := rd_lt64 xs n (p + q) h
  rw [rd_add] at hl ⊢
  rw [join_value _ _ _ (by omega) (rd_lt _ _ _) hl]

theorem top_value (xs : List Int) (n k : Nat) (hb : ∀ x ∈ xs, 0 ≤ x ∧ x ≤ 255) (hn : n % 8 = 0) (hk : 8 ≤ k) : (rd xs n k : Int) / 2 ^ (k - 8) = IntKind.u64.wrap (xs[n / 8]?.getD 0) := by
  have h := rd_top xs n k hb hn hk
  have hx := byte_range xs hb (n / 8)
  rw [List.getD] at h hx
  rw [u64_wrap_id _ hx.1 (by omega)]
  have e : ((2 : Int) ^ (k - 8)) = ((2 ^ (k - 8) : Nat) : Int) := by simp
  have e2 : ((rd xs n k : Int) / ((2 ^ (k - 8) : Nat) : Int)) = ((rd xs n k / 2 ^ (k - 8) : Nat) : Int) := by simp
  rw [e, e2, h]
  omega

end Go.Proofs.Qxb6614317aFmt
