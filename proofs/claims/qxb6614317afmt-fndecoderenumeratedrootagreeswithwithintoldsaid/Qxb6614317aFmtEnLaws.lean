/- Plain laws of enumerated. -/
import Derived.Test.Qxb6614317aFmtEnum
namespace Go.Proofs.Qxb6614317aFmt
open Go.RowKit

theorem i64_wf {n : Int} (h : (Lit.int .i64 n).wf = true) : n ≤ 9223372036854775807 := by
  have h' : -9223372036854775808 ≤ n ∧ n ≤ 9223372036854775807 := by simpa [Lit.wf, IntKind.min, IntKind.max, IntKind.signed, IntKind.bits] using h
  exact h'.2

theorem lenS_mono (xs : List Int) (s : St) : s.n ≤ (lenS xs s).n := by
  unfold lenS
  have h1 := Nat.le_trans (alignS_mono s) (bitsS_mono xs (alignS s) 8)
  split
  · exact h1
  split
  · exact Nat.le_trans h1 (bitsS_mono _ _ _)
  · exact h1
theorem ocS_mono (xs : List Int) (s : St) (k : Nat) : s.n ≤ (ocS xs s k).n := by
  unfold ocS
  have h1 := alignS_mono s
  split
  · exact h1
  split
  · exact h1
  · exact Nat.le_trans h1 (Nat.le_add_right _ _)
theorem nsS_mono (xs : List Int) (s : St) : (bitsS xs s 1).n ≤ (nsS xs s).n := by
  unfold nsS
  split
  · exact bitsS_mono _ _ _
  split
  · exact lenS_mono _ _
  · exact Nat.le_trans (lenS_mono xs _) (ocS_mono _ _ _)

theorem wrap64_back (r x : Int) : wrap64 (wrap64 (r + wrap64 x) - r) = wrap64 x := by
  simp only [wrap64]
  omega

/-- What enumerated comes to behind the extension bit. -/
theorem en_end {xs : List Int} {n root : Nat} (h : n = 8 * xs.length) : enV xs ⟨n, false⟩ root = 0 ∧ enS xs ⟨n, false⟩ root = ⟨n, true⟩ := by
  unfold enV enS
  rw [boolV_end h, boolS_end h, conV_bad rfl, conS_bad rfl]
  simp
theorem en_ext {xs : List Int} {n root : Nat} (h : n < 8 * xs.length) (hb : bitAt xs n = 1) : enV xs ⟨n, false⟩ root = wrap64 ((root : Int) + wrap64 (nsV xs ⟨n + 1, false⟩)) ∧ enS xs ⟨n, false⟩ root = nsS xs ⟨n + 1, false⟩ := by
  unfold enV enS
  rw [boolV_in h, boolS_in h, hb]
  simp
theorem en_in {xs : List Int} {n root : Nat} (h : n < 8 * xs.length) (hb : ¬ bitAt xs n = 1) : enV xs ⟨n, false⟩ root = (conV xs ⟨n + 1, false⟩ (root - 1) : Int) ∧ enS xs ⟨n, false⟩ root = conS xs ⟨n + 1, false⟩ (root - 1) := by
  unfold enV enS
  rw [boolV_in h, boolS_in h]
  simp [hb]

theorem ns_six {xs : List Int} {n : Nat} (h : n + 8 ≤ 8 * xs.length) (hb : bitAt xs (n + 1) = 0) : nsV xs ⟨n + 1, false⟩ = (rd xs (n + 2) 6 : Int) ∧ nsS xs ⟨n + 1, false⟩ = ⟨n + 8, false⟩ := by
  have h1 : n + 1 < 8 * xs.length := by omega
  have hv : boolV xs ⟨n + 1, false⟩ = false := by rw [boolV_in h1, hb]; rfl
  unfold nsV nsS
  rw [if_pos hv, if_pos hv, boolS_in h1, bitsV_go (by omega), bitsS_go (by omega)]
  exact ⟨rfl, rfl⟩
theorem ns_far {xs : List Int} {n : Nat} (h : n < 8 * xs.length) : n + 2 ≤ (nsS xs ⟨n + 1, false⟩).n ∨ (nsS xs ⟨n + 1, false⟩).bad = true := by
  by_cases h1 : n + 1 < 8 * xs.length
  · have := nsS_mono xs ⟨n + 1, false⟩
    rw [boolS_in h1] at this
    exact .inl this
  · have h2 : n + 1 = 8 * xs.length := by omega
    right
    unfold nsS
    rw [if_pos (boolV_end h2), boolS_end h2, bitsS_bad_mono rfl]
theorem ns_low {xs : List Int} {n : Nat} : n + 1 ≤ (nsS xs ⟨n + 1, false⟩).n := Nat.le_trans (bitsS_mono xs ⟨n + 1, false⟩ 1) (nsS_mono xs ⟨n + 1, false⟩)

/-- The ways of FnDecoderEnumeratedExtensionShiftsWithRoot. -/
def ExtWays (xs : List Int) (n r1 r2 : Nat) (v1 v2 : Int) (m1 m2 : Nat) (f1 f2 : Bool) : Prop :=
  (n = 8 * xs.length ∧ 0 = v1 ∧ 0 = v2 ∧ n = m1 ∧ n = m2 ∧ true = f1 ∧ true = f2) ∨
  (n < 8 * xs.length ∧ bitAt xs n = 1 ∧ (∃ x, wrap64 (v1 - r1) = x ∧ wrap64 (v2 - r2) = x) ∧ m1 = m2 ∧ f1 = f2 ∧ n + 1 ≤ m1) ∨
  (n < 8 * xs.length ∧ bitAt xs n = 0 ∧ n + 1 ≤ m1 ∧ n + 1 ≤ m2 ∧ ∃ c1 c2 : Nat, (c1 : Int) = v1 ∧ (c2 : Int) = v2 ∧ c1 ≤ r1 - 1 ∧ c2 ≤ r2 - 1 ∧ (f1 = true → c1 = 0) ∧ (f2 = true → c2 = 0))

theorem extWays (xs : List Int) (n r1 r2 : Nat) (h : n ≤ 8 * xs.length) :
    ExtWays xs n r1 r2 (enV xs ⟨n, false⟩ r1) (enV xs ⟨n, false⟩ r2) (enS xs ⟨n, false⟩ r1).n (enS xs ⟨n, false⟩ r2).n (enS xs ⟨n, false⟩ r1).bad (enS xs ⟨n, false⟩ r2).bad := by
  by_cases h1 : n = 8 * xs.length
  · obtain ⟨e1, e2⟩ := en_end (root := r1) h1
    obtain ⟨e3, e4⟩ := en_end (root := r2) h1
    rw [e1, e2, e3, e4]
    exact .inl ⟨h1, rfl, rfl, rfl, rfl, rfl, rfl⟩
  have h2 : n < 8 * xs.length := by omega
  by_cases hb : bitAt xs n = 1
  · obtain ⟨e1, e2⟩ := en_ext (root := r1) h2 hb
    obtain ⟨e3, e4⟩ := en_ext (root := r2) h2 hb
    rw [e1, e2, e3, e4]
    exact .inr (.inl ⟨h2, hb, ⟨_, wrap64_back r1 _, wrap64_back r2 _⟩, rfl, rfl, ns_low⟩)
  · obtain ⟨e1, e2⟩ := en_in (root := r1) h2 hb
    obtain ⟨e3, e4⟩ := en_in (root := r2) h2 hb
    rw [e1, e2, e3, e4]
    have hb0 : bitAt xs n = 0 := by have := bitAt_le xs n; omega
    exact .inr (.inr ⟨h2, hb0, conS_mono xs ⟨n + 1, false⟩ _, conS_mono xs ⟨n + 1, false⟩ _, _, _, rfl, rfl, conV_le _ _ _, conV_le _ _ _, conV_of_bad, conV_of_bad⟩)

/-- The ways of FnDecoderEnumeratedRootAgreesWithWithin. -/
def RootWays (xs : List Int) (n root : Nat) (vE : Int) (vW : Nat) (mE mW : Nat) (fE fW : Bool) : Prop :=
  (n = 8 * xs.length ∧ 0 = vE ∧ 0 = vW ∧ n = mE ∧ n = mW ∧ true = fE ∧ true = fW) ∨
  (n < 8 * xs.length ∧ bitAt xs n = 1 ∧ 0 = vW ∧ n + 1 = mW ∧ true = fW ∧ n + 8 ≤ 8 * xs.length ∧ bitAt xs (n + 1) = 0 ∧ wrap64 ((root : Int) + rd xs (n + 2) 6) = vE ∧ n + 8 = mE ∧ false = fE) ∨
  (n < 8 * xs.length ∧ bitAt xs n = 1 ∧ 0 = vW ∧ n + 1 = mW ∧ true = fW ∧ (8 * xs.length < n + 8 ∨ (n + 8 ≤ 8 * xs.length ∧ bitAt xs (n + 1) = 1)) ∧ (n + 2 ≤ mE ∨ fE = true)) ∨
  (n < 8 * xs.length ∧ bitAt xs n = 0 ∧ (vW : Int) = vE ∧ vW ≤ root - 1 ∧ mW = mE ∧ fW = fE)

theorem wrap64_small (root : Nat) (x : Nat) (hx : x < 64) : wrap64 ((root : Int) + wrap64 (x : Int)) = wrap64 ((root : Int) + x) := by
  have : wrap64 (x : Int) = x := by simp only [wrap64]; omega
  rw [this]

theorem rootWays (xs : List Int) (n root : Nat) (h : n ≤ 8 * xs.length) :
    RootWays xs n root (enV xs ⟨n, false⟩ root) (witV xs ⟨n, false⟩ 0 (root - 1)) (enS xs ⟨n, false⟩ root).n (witS xs ⟨n, false⟩ (root - 1)).n (enS xs ⟨n, false⟩ root).bad (witS xs ⟨n, false⟩ (root - 1)).bad := by
  by_cases h1 : n = 8 * xs.length
  · obtain ⟨e1, e2⟩ := en_end (root := root) h1
    obtain ⟨e3, e4⟩ := wit_end (lb := 0) (r := root - 1) h1
    rw [e1, e2, e3, e4]
    exact .inl ⟨h1, rfl, rfl, rfl, rfl, rfl, rfl⟩
  have h2 : n < 8 * xs.length := by omega
  by_cases hb : bitAt xs n = 1
  · obtain ⟨e1, e2⟩ := en_ext (root := root) h2 hb
    obtain ⟨e3, e4⟩ := wit_ext (lb := 0) (r := root - 1) h2 hb
    rw [e1, e2, e3, e4]
    by_cases h8 : n + 8 ≤ 8 * xs.length ∧ bitAt xs (n + 1) = 0
    · obtain ⟨e5, e6⟩ := ns_six h8.1 h8.2
      rw [e5, e6, wrap64_small root _ (rd_lt xs (n + 2) 6)]
      exact .inr (.inl ⟨h2, hb, rfl, rfl, rfl, h8.1, h8.2, rfl, rfl, rfl⟩)
    · refine .inr (.inr (.inl ⟨h2, hb, rfl, rfl, rfl, ?_, ns_far h2⟩))
      by_cases h9 : n + 8 ≤ 8 * xs.length
      · right
        have := bitAt_le xs (n + 1)
        exact ⟨h9, by have : ¬ bitAt xs (n + 1) = 0 := fun e => h8 ⟨h9, e⟩; omega⟩
      · left; omega
  · obtain ⟨e1, e2⟩ := en_in (root := root) h2 hb
    obtain ⟨e3, e4⟩ := wit_in (lb := 0) (r := root - 1) h2 hb
    rw [e1, e2, e3, e4, Nat.zero_add]
    have hb0 : bitAt xs n = 0 := by have := bitAt_le xs n; omega
    exact .inr (.inr (.inr ⟨h2, hb0, rfl, conV_le _ _ _, rfl, rfl⟩))

end Go.Proofs.Qxb6614317aFmt
