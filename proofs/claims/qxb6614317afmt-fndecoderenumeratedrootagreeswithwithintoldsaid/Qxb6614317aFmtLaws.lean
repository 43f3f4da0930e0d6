/- Plain laws of the decoder's functions: no Go text is walked here. -/
import Derived.Test.Qxb6614317aFmtCon2
namespace Go.Proofs.Qxb6614317aFmt

/-- A uint64. (A structure: the walk must not meet the numeral, and it opens a plain definition.) -/
structure Fits64 (x : Nat) : Prop where
  out : (x : Int) < 18446744073709551616

theorem u64_wf {n : Int} (h : (Lit.int .u64 n).wf = true) : 0 ≤ n ∧ n < 18446744073709551616 := by
  have h' : 0 ≤ n ∧ n ≤ 18446744073709551615 := by simpa [Lit.wf, IntKind.min, IntKind.max, IntKind.signed, IntKind.bits] using h
  omega

theorem bitsV_of_bad {xs : List Int} {s : St} {k : Nat} (h : (bitsS xs s k).bad = true) : bitsV xs s k = 0 := by
  obtain ⟨n, bad⟩ := s
  cases bad with
  | true => simp [bitsV]
  | false =>
    by_cases hc : 8 * xs.length < n + k
    · simp [bitsV, hc]
    · simp [bitsS, hc] at h
theorem bitsS_mono (xs : List Int) (s : St) (k : Nat) : s.n ≤ (bitsS xs s k).n := by
  obtain ⟨n, bad⟩ := s
  cases bad with
  | true => simp [bitsS]
  | false =>
    by_cases hc : 8 * xs.length < n + k
    · simp [bitsS, hc]
    · simp [bitsS, hc]
theorem bitsS_bad_mono {xs : List Int} {s : St} {k : Nat} (h : s.bad = true) : bitsS xs s k = s := by simp [bitsS, h]
theorem bitsV_of_sbad {xs : List Int} {s : St} {k : Nat} (h : s.bad = true) : bitsV xs s k = 0 := by simp [bitsV, h]
theorem alignS_mono (s : St) : s.n ≤ (alignS s).n := by
  unfold alignS
  split <;> simp
theorem alignS_bad (s : St) : (alignS s).bad = s.bad := by
  unfold alignS
  split <;> rfl
theorem alignS_of_bad {s : St} (h : s.bad = true) : alignS s = s := by simp [alignS, h]
theorem finS_mono (r v : Nat) (s : St) : s.n ≤ (finS r v s).n := by unfold finS; split <;> simp
theorem smS_mono (xs : List Int) (s : St) (r : Nat) : s.n ≤ (smS xs s r).n := by
  unfold smS; split
  · exact Nat.le_refl _
  · exact bitsS_mono _ _ _
theorem octS_mono (xs : List Int) (s : St) (r : Nat) : s.n ≤ (octS xs s r).n := Nat.le_trans (smS_mono xs s _) (finS_mono _ _ _)
theorem rawS_mono (xs : List Int) (s : St) (r : Nat) : s.n ≤ (rawS xs s r).n := by
  unfold rawS
  split
  · exact smS_mono _ _ _
  split
  · exact Nat.le_trans (alignS_mono s) (bitsS_mono _ _ _)
  split
  · exact Nat.le_trans (alignS_mono s) (bitsS_mono _ _ _)
  · exact Nat.le_trans (octS_mono xs s r) (Nat.le_trans (alignS_mono _) (bitsS_mono _ _ _))
theorem conS_mono (xs : List Int) (s : St) (r : Nat) : s.n ≤ (conS xs s r).n := Nat.le_trans (rawS_mono xs s r) (finS_mono _ _ _)

/-- Behind a fault nothing is read and nothing moves. -/
theorem smV_bad {xs : List Int} {s : St} {r : Nat} (h : s.bad = true) : smV xs s r = 0 := by unfold smV; split <;> simp [bitsV_of_sbad h]
theorem smS_bad {xs : List Int} {s : St} {r : Nat} (h : s.bad = true) : smS xs s r = s := by unfold smS; split <;> simp [bitsS_bad_mono h]
theorem octS_bad {xs : List Int} {s : St} {r : Nat} (h : s.bad = true) : octS xs s r = s := by
  unfold octS; rw [smV_bad h, smS_bad h, finS_neg (by omega)]
theorem rawV_bad {xs : List Int} {s : St} {r : Nat} (h : s.bad = true) : rawV xs s r = 0 := by
  unfold rawV
  rw [octS_bad h, alignS_of_bad h, smV_bad h, bitsV_of_sbad h, bitsV_of_sbad h, bitsV_of_sbad h]
  simp
theorem rawS_bad {xs : List Int} {s : St} {r : Nat} (h : s.bad = true) : rawS xs s r = s := by
  unfold rawS
  rw [octS_bad h, alignS_of_bad h, smS_bad h, bitsS_bad_mono h, bitsS_bad_mono h, bitsS_bad_mono h]
  simp
theorem conV_bad {xs : List Int} {s : St} {r : Nat} (h : s.bad = true) : conV xs s r = 0 := by unfold conV; rw [rawV_bad h, finV_neg (by omega)]
theorem conS_bad {xs : List Int} {s : St} {r : Nat} (h : s.bad = true) : conS xs s r = s := by unfold conS; rw [rawV_bad h, rawS_bad h, finS_neg (by omega)]

/-- A reading that ends in a fault answers 0. -/
theorem rawV_of_bad {xs : List Int} {s : St} {r : Nat} (h : (rawS xs s r).bad = true) : rawV xs s r = 0 := by
  unfold rawS at h
  unfold rawV
  split at h
  · rename_i h1
    rw [if_pos h1]
    unfold smS at h
    unfold smV
    split at h
    · rename_i h2; rw [if_pos h2]
    · rename_i h2; rw [if_neg h2]; exact bitsV_of_bad h
  rename_i h1
  rw [if_neg h1]
  split at h
  · rename_i h2; rw [if_pos h2]; exact bitsV_of_bad h
  rename_i h2
  rw [if_neg h2]
  split at h
  · rename_i h3; rw [if_pos h3]; exact bitsV_of_bad h
  · rename_i h3; rw [if_neg h3]; exact bitsV_of_bad h
theorem conV_of_bad {xs : List Int} {s : St} {r : Nat} (h : (conS xs s r).bad = true) : conV xs s r = 0 := by
  unfold conS at h
  unfold conV
  by_cases hc : r < rawV xs s r
  · exact finV_pos hc
  · rw [finS_neg hc] at h
    rw [rawV_of_bad h, finV_neg (by omega)]
theorem conV_le (xs : List Int) (s : St) (r : Nat) : conV xs s r ≤ r := finV_le _ _

/-! ### The extension bit -/
theorem rd_one (xs : List Int) (n : Nat) : rd xs n 1 = bitAt xs n := by simp [rd]
theorem boolV_end {xs : List Int} {n : Nat} (h : n = 8 * xs.length) : boolV xs ⟨n, false⟩ = false := by simp [boolV, bitsV, h]
theorem boolS_end {xs : List Int} {n : Nat} (h : n = 8 * xs.length) : bitsS xs ⟨n, false⟩ 1 = ⟨n, true⟩ := bitsS_cut (by omega)
theorem boolV_in {xs : List Int} {n : Nat} (h : n < 8 * xs.length) : boolV xs ⟨n, false⟩ = decide (bitAt xs n = 1) := by
  rw [boolV, bitsV_go (by omega), rd_one]
theorem boolS_in {xs : List Int} {n : Nat} (h : n < 8 * xs.length) : bitsS xs ⟨n, false⟩ 1 = ⟨n + 1, false⟩ := bitsS_go (by omega)

theorem wit_end {xs : List Int} {n lb r : Nat} (h : n = 8 * xs.length) : witV xs ⟨n, false⟩ lb r = lb ∧ witS xs ⟨n, false⟩ r = ⟨n, true⟩ := by
  unfold witV witS
  rw [boolV_end h, boolS_end h, conV_bad rfl, conS_bad rfl]
  simp
theorem wit_ext {xs : List Int} {n lb r : Nat} (h : n < 8 * xs.length) (hb : bitAt xs n = 1) : witV xs ⟨n, false⟩ lb r = 0 ∧ witS xs ⟨n, false⟩ r = ⟨n + 1, true⟩ := by
  unfold witV witS
  rw [boolV_in h, boolS_in h, hb]
  simp
theorem wit_in {xs : List Int} {n lb r : Nat} (h : n < 8 * xs.length) (hb : ¬ bitAt xs n = 1) : witV xs ⟨n, false⟩ lb r = lb + conV xs ⟨n + 1, false⟩ r ∧ witS xs ⟨n, false⟩ r = conS xs ⟨n + 1, false⟩ r := by
  unfold witV witS
  rw [boolV_in h, boolS_in h]
  simp [hb]

end Go.Proofs.Qxb6614317aFmt
