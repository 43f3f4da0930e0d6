/- Plain laws: data that stand between a prefix and a suffix of whole octets are read as they are by themselves. -/
import Derived.Test.Qxb6614317aFmtLaws
namespace Go.Proofs.Qxb6614317aFmt

/-- A state moved by off bits. -/
def sh (off : Nat) (s : St) : St := ⟨off + s.n, s.bad⟩

section
variable (pre xs tl : List Int)

theorem getD_mid (j : Nat) (h : j < xs.length) : (pre ++ xs ++ tl).getD (pre.length + j) 0 = xs.getD j 0 := by
  have h1 : pre.length + j < (pre ++ xs).length := by simp; omega
  rw [List.getD, List.getD, List.getElem?_append_left h1, List.getElem?_append_right (by omega)]
  simp

theorem bitAt_shift (i : Nat) (h : i < 8 * xs.length) : bitAt (pre ++ xs ++ tl) (8 * pre.length + i) = bitAt xs i := by
  have e1 : (8 * pre.length + i) / 8 = pre.length + i / 8 := by omega
  have e2 : (8 * pre.length + i) % 8 = i % 8 := by omega
  rw [bitAt, bitAt, e1, e2, getD_mid pre xs tl (i / 8) (by omega)]

theorem rd_shift (n : Nat) : ∀ k, n + k ≤ 8 * xs.length → rd (pre ++ xs ++ tl) (8 * pre.length + n) k = rd xs n k
  | 0, _ => rfl
  | k + 1, h => by
    rw [rd, rd, rd_shift n k (by omega), Nat.add_assoc, bitAt_shift pre xs tl (n + k) (by omega)]

theorem bits_shift {s : St} {k : Nat} (h : (bitsS xs s k).bad = false) :
    bitsV (pre ++ xs ++ tl) (sh (8 * pre.length) s) k = bitsV xs s k ∧ bitsS (pre ++ xs ++ tl) (sh (8 * pre.length) s) k = sh (8 * pre.length) (bitsS xs s k) := by
  obtain ⟨n, bad⟩ := s
  cases bad with
  | true => simp [bitsS] at h
  | false =>
    by_cases hc : 8 * xs.length < n + k
    · rw [bitsS_cut hc] at h; cases h
    · have hg : n + k ≤ 8 * xs.length := by omega
      have hw : 8 * pre.length + n + k ≤ 8 * (pre ++ xs ++ tl).length := by simp; omega
      unfold sh
      rw [bitsV_go hg, bitsS_go hg, bitsV_go hw, bitsS_go hw, rd_shift pre xs tl n k hg]
      exact ⟨rfl, by simp [Nat.add_assoc]⟩

theorem align_shift (s : St) : alignS (sh (8 * pre.length) s) = sh (8 * pre.length) (alignS s) := by
  obtain ⟨n, bad⟩ := s
  unfold alignS sh
  have e : (8 * pre.length + n) % 8 = n % 8 := by omega
  simp only [e]
  by_cases hc : bad = false ∧ 0 < n % 8
  · rw [if_pos hc, if_pos hc]; simp [Nat.add_assoc]
  · rw [if_neg hc, if_neg hc]

theorem not_bad_bits {s : St} {k : Nat} (h : (bitsS xs s k).bad = false) : s.bad = false := by
  cases hb : s.bad with
  | false => rfl
  | true => rw [bitsS_bad_mono hb, hb] at h; cases h
theorem not_bad_fin {s : St} {r v : Nat} (h : (finS r v s).bad = false) : ¬ r < v ∧ s.bad = false := by
  by_cases hc : r < v
  · rw [finS_pos hc] at h; cases h
  · rw [finS_neg hc] at h; exact ⟨hc, h⟩

theorem sm_shift {s : St} {r : Nat} (h : (smS xs s r).bad = false) :
    smV (pre ++ xs ++ tl) (sh (8 * pre.length) s) r = smV xs s r ∧ smS (pre ++ xs ++ tl) (sh (8 * pre.length) s) r = sh (8 * pre.length) (smS xs s r) := by
  unfold smV smS at *
  by_cases h0 : r = 0
  · simp [h0]
  · rw [if_neg h0] at h
    simp only [if_neg h0]
    exact bits_shift pre xs tl h

theorem oct_shift {s : St} {r : Nat} (h : (octS xs s r).bad = false) :
    octN (pre ++ xs ++ tl) (sh (8 * pre.length) s) r = octN xs s r ∧ octS (pre ++ xs ++ tl) (sh (8 * pre.length) s) r = sh (8 * pre.length) (octS xs s r) := by
  unfold octS at h
  obtain ⟨h1, h2⟩ := not_bad_fin h
  obtain ⟨e1, e2⟩ := sm_shift pre xs tl h2
  unfold octN octS
  rw [e1, e2, finS_neg h1, finS_neg h1]
  exact ⟨rfl, rfl⟩

theorem raw_shift {s : St} {r : Nat} (h : (rawS xs s r).bad = false) :
    rawV (pre ++ xs ++ tl) (sh (8 * pre.length) s) r = rawV xs s r ∧ rawS (pre ++ xs ++ tl) (sh (8 * pre.length) s) r = sh (8 * pre.length) (rawS xs s r) := by
  unfold rawS at h
  unfold rawV rawS
  by_cases h1 : r < 255
  · rw [if_pos h1] at h
    simp only [if_pos h1]
    exact sm_shift pre xs tl h
  rw [if_neg h1] at h
  simp only [if_neg h1]
  by_cases h2 : r = 255
  · rw [if_pos h2] at h
    simp only [if_pos h2]
    rw [align_shift]
    exact bits_shift pre xs tl h
  rw [if_neg h2] at h
  simp only [if_neg h2]
  by_cases h3 : r ≤ 65535
  · rw [if_pos h3] at h
    simp only [if_pos h3]
    rw [align_shift]
    exact bits_shift pre xs tl h
  rw [if_neg h3] at h
  simp only [if_neg h3]
  have h4 := not_bad_bits xs h
  rw [alignS_bad] at h4
  obtain ⟨e1, e2⟩ := oct_shift pre xs tl h4
  rw [e1, e2, align_shift]
  exact bits_shift pre xs tl h

theorem con_shift {s : St} {r : Nat} (h : (conS xs s r).bad = false) :
    conV (pre ++ xs ++ tl) (sh (8 * pre.length) s) r = conV xs s r ∧ conS (pre ++ xs ++ tl) (sh (8 * pre.length) s) r = sh (8 * pre.length) (conS xs s r) := by
  unfold conS at h
  obtain ⟨h1, h2⟩ := not_bad_fin h
  obtain ⟨e1, e2⟩ := raw_shift pre xs tl h2
  unfold conV conS
  rw [e1, e2, finS_neg h1, finS_neg h1]
  exact ⟨rfl, rfl⟩

/-- The four ways of the law. -/
def OwnWays (n lb r v m : Nat) (f : Bool) (vB mB : Nat) (fB : Bool) : Prop :=
  (n < 8 * xs.length ∧ bitAt xs n = 1 ∧ true = f ∧ n + 1 = m ∧ 0 = v ∧ true = fB ∧ 8 * pre.length + n + 1 = mB ∧ 0 = vB) ∨
  (n = 8 * xs.length ∧ true = f ∧ lb = v) ∨ (n < 8 * xs.length ∧ bitAt xs n = 0 ∧ true = f ∧ lb = v) ∨
  (n < 8 * xs.length ∧ bitAt xs n = 0 ∧ false = f ∧ n + 1 ≤ m ∧ (∃ c, lb + c = v ∧ c ≤ r) ∧ false = fB ∧ v = vB ∧ 8 * pre.length + m = mB)

theorem ownWays (n lb r : Nat) (h : n ≤ 8 * xs.length) :
    OwnWays pre xs n lb r (witV xs ⟨n, false⟩ lb r) (witS xs ⟨n, false⟩ r).n (witS xs ⟨n, false⟩ r).bad
      (witV (pre ++ xs ++ tl) ⟨8 * pre.length + n, false⟩ lb r) (witS (pre ++ xs ++ tl) ⟨8 * pre.length + n, false⟩ r).n (witS (pre ++ xs ++ tl) ⟨8 * pre.length + n, false⟩ r).bad := by
  by_cases h1 : n = 8 * xs.length
  · obtain ⟨e1, e2⟩ := wit_end (lb := lb) (r := r) h1
    rw [e1, e2]
    exact .inr (.inl ⟨h1, rfl, rfl⟩)
  have h2 : n < 8 * xs.length := by omega
  have h3 : 8 * pre.length + n < 8 * (pre ++ xs ++ tl).length := by simp; omega
  have hbs := bitAt_shift pre xs tl n h2
  by_cases hb : bitAt xs n = 1
  · obtain ⟨e1, e2⟩ := wit_ext (lb := lb) (r := r) h2 hb
    obtain ⟨e3, e4⟩ := wit_ext (lb := lb) (r := r) h3 (hbs.trans hb)
    rw [e1, e2, e3, e4]
    exact .inl ⟨h2, hb, rfl, rfl, rfl, rfl, rfl, rfl⟩
  · obtain ⟨e1, e2⟩ := wit_in (lb := lb) (r := r) h2 hb
    obtain ⟨e3, e4⟩ := wit_in (lb := lb) (r := r) h3 (by rw [hbs]; exact hb)
    rw [e1, e2, e3, e4]
    have hb0 : bitAt xs n = 0 := by have := bitAt_le xs n; omega
    cases hf : (conS xs ⟨n + 1, false⟩ r).bad with
    | true => exact .inr (.inr (.inl ⟨h2, hb0, rfl, by rw [conV_of_bad hf]; rfl⟩))
    | false =>
      obtain ⟨e5, e6⟩ := con_shift pre xs tl hf
      have e7 : (⟨8 * pre.length + n + 1, false⟩ : St) = sh (8 * pre.length) ⟨n + 1, false⟩ := by simp [sh, Nat.add_assoc]
      rw [e7, e5, e6]
      exact .inr (.inr (.inr ⟨h2, hb0, rfl, conS_mono xs ⟨n + 1, false⟩ r, ⟨_, rfl, conV_le xs _ r⟩, by simp [sh, hf], rfl, rfl⟩))

end
end Go.Proofs.Qxb6614317aFmt
