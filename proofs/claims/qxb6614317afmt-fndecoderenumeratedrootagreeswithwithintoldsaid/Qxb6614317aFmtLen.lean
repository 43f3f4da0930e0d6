/- length, octets. -/
import Derived.Test.Qxb6614317aFmtLaws
namespace Go.Proofs.Qxb6614317aFmt
open Go.RowKit Go.Extern.Stop Go.Stop Go.Extern

theorem oct_and128 : ∀ f : Fin 256, ((f.val &&& 128 : Nat) = 0 ↔ f.val < 128) := by decide +kernel
theorem oct_and64 : ∀ f : Fin 256, 128 ≤ f.val → ((f.val &&& 64 : Nat) = 0 ↔ f.val < 192) := by decide +kernel
theorem oct_and63 : ∀ f : Fin 256, 128 ≤ f.val → f.val < 192 → (f.val &&& 63 : Nat) = f.val - 128 := by decide +kernel

theorem u64_and128 (f : Nat) (h : f < 256) : (bits .and .u64 (f : Int) 128 == 0) = decide (f < 128) := by
  have e := u64_and_nat f 128 (by omega) (by decide)
  have e' : bits .and .u64 (f : Int) 128 = ((f &&& 128 : Nat) : Int) := e
  have h1 := oct_and128 ⟨f, h⟩
  simp only at h1
  rw [e', Bool.eq_iff_iff]
  simp only [beq_iff_eq, decide_eq_true_eq]
  rw [← h1]
  omega
theorem u64_and64 (f : Nat) (h : f < 256) (h0 : 128 ≤ f) : (bits .and .u64 (f : Int) 64 == 0) = decide (f < 192) := by
  have e' : bits .and .u64 (f : Int) 64 = ((f &&& 64 : Nat) : Int) := u64_and_nat f 64 (by omega) (by decide)
  have h1 := oct_and64 ⟨f, h⟩ h0
  simp only at h1
  rw [e', Bool.eq_iff_iff]
  simp only [beq_iff_eq, decide_eq_true_eq]
  rw [← h1]
  omega
theorem u64_and63 (f : Nat) (h : f < 256) (h0 : 128 ≤ f) (h1 : f < 192) : bits .and .u64 (f : Int) 63 = ((f - 128 : Nat) : Int) := by
  have e' : bits .and .u64 (f : Int) 63 = ((f &&& 63 : Nat) : Int) := u64_and_nat f 63 (by omega) (by decide)
  rw [e', oct_and63 ⟨f, h⟩ h0 h1]

theorem wraps_i64_20 (n : Int) (h₀ : 0 ≤ n) (h₁ : n < 2 ^ 20) : IntKind.i64.wrap n = n := by rw [IntKind.wrap_i64]; omega
theorem i64_or8 (x y : Nat) (hx : x < 4096) (hy : y < 256) : bits .or .i64 ((x : Int) * 256) (y : Int) = (x : Int) * 256 + y :=
  bits_join .i64 20 (by decide) wraps_i64_20 8 (x := (x : Int) * 256) (y := (y : Int)) (by omega) (by omega) (by omega) (by omega) (by omega) (by omega)

theorem bitsV_lt (xs : List Int) (s : St) (k : Nat) : bitsV xs s k < 2 ^ k := by
  unfold bitsV
  split
  · exact Nat.pow_pos (by decide)
  · exact rd_lt _ _ _

/-- length: the number, and the state behind it. -/
def lenV (xs : List Int) (s : St) : Nat :=
  if bitsV xs (alignS s) 8 < 128 then bitsV xs (alignS s) 8
  else if bitsV xs (alignS s) 8 < 192 then (bitsV xs (alignS s) 8 - 128) * 256 + bitsV xs (bitsS xs (alignS s) 8) 8 else 0
def lenS (xs : List Int) (s : St) : St :=
  if bitsV xs (alignS s) 8 < 128 then bitsS xs (alignS s) 8
  else if bitsV xs (alignS s) 8 < 192 then bitsS xs (bitsS xs (alignS s) 8) 8 else ⟨(bitsS xs (alignS s) 8).n, true⟩

set_option maxHeartbeats 1000000 in
theorem length_any {F : Interp} {w : World} {b : Nat} {a : Option Addr} {xs : List Int} {s : St} (hD : D F w b a xs s) :
    Calls Tryf.prog 37 #[.pointer (some ⟨b, 0, none⟩)] w fun e w' => e = .returned (.int .i64 (lenV xs s)) ∧ D F w' b a xs (lenS xs s) ∧ Below b w w' := by
  have H : Hid (D F w b a xs s) := hD
  have hf8 : bitsV xs (alignS s) 8 < 256 := bitsV_lt xs (alignS s) 8
  have hg8 : bitsV xs (bitsS xs (alignS s) 8) 8 < 256 := bitsV_lt _ _ 8
  clear hD
  unfold lenV lenS
  obtain ⟨s1, hs1⟩ : ∃ s1, s1 = bitsS xs (alignS s) 8 := ⟨_, rfl⟩
  obtain ⟨f, hf⟩ : ∃ f, f = bitsV xs (alignS s) 8 := ⟨_, rfl⟩
  rw [← hf, ← hs1]
  rw [← hf] at hf8
  rw [← hs1] at hg8
  obtain ⟨g, hg⟩ : ∃ g, g = bitsV xs s1 8 := ⟨_, rfl⟩
  rw [← hg] at hg8 ⊢
  have E1 : Hid (s1 = bitsS xs (alignS s) 8) := hs1
  have E2 : Hid (f = bitsV xs (alignS s) 8) := hf
  have E3 : Hid (g = bitsV xs s1 8) := hg
  clear hs1 hf hg
  have q1 := u64_and128 f hf8
  by_cases h1 : f < 128
  · rw [if_pos h1, if_pos h1]
    have q1' : (bits .and .u64 (f : Int) 128 == 0) = true := by rw [q1]; simpa using h1
    clear q1
    go_enter Tryf.func37, Tryf.ntmps37
    go_wp2_with fail
    refine (align_any H.out).mono ?_
    rintro e w1 ⟨rfl, hD1, hb1⟩
    have HD1 : Hid (D F w1 b a xs (alignS s)) := hD1
    have HB1 : Hid (Below b w w1) := hb1
    clear hD1 hb1
    go_wp2_with fail
    have C2 := bits_any' (K := 8) 8 rfl (by omega) HD1.out
    rw [← E1.out, ← E2.out] at C2
    refine C2.mono ?_
    clear C2
    rintro e w2 ⟨rfl, hD2, hb2⟩
    have HD2 : Hid (D F w2 b a xs s1) := hD2
    have HB2 : Hid (Below b w w2) := HB1.out.trans hb2
    clear hD2 hb2
    go_wp2_with fail
    go_ret
    exact ⟨rfl, HD2.out, HB2.out⟩
  · rw [if_neg h1, if_neg h1]
    have q1' : (bits .and .u64 (f : Int) 128 == 0) = false := by rw [q1]; simpa using h1
    have q2 := u64_and64 f hf8 (by omega)
    clear q1
    by_cases h2 : f < 192
    · rw [if_pos h2, if_pos h2]
      have q2' : (bits .and .u64 (f : Int) 64 == 0) = true := by rw [q2]; simpa using h2
      have q3 := u64_and63 f hf8 (by omega) h2
      obtain ⟨k, hk⟩ : ∃ k, k = f - 128 := ⟨_, rfl⟩
      rw [← hk] at q3 ⊢
      have hk1 : k < 64 := by omega
      have q4 := i64_or8 k g (by omega) (by omega)
      clear q2 hk
      go_enter Tryf.func37, Tryf.ntmps37
      go_wp2_with fail
      refine (align_any H.out).mono ?_
      rintro e w1 ⟨rfl, hD1, hb1⟩
      have HD1 : Hid (D F w1 b a xs (alignS s)) := hD1
      have HB1 : Hid (Below b w w1) := hb1
      clear hD1 hb1
      go_wp2_with fail
      have C2 := bits_any' (K := 8) 8 rfl (by omega) HD1.out
      rw [← E1.out, ← E2.out] at C2
      refine C2.mono ?_
      clear C2
      rintro e w2 ⟨rfl, hD2, hb2⟩
      have HD2 : Hid (D F w2 b a xs s1) := hD2
      have HB2 : Hid (Below b w w2) := HB1.out.trans hb2
      clear hD2 hb2
      go_wp2_with fail
      have C3 := bits_any' (K := 8) 8 rfl (by omega) HD2.out
      rw [← E3.out] at C3
      refine C3.mono ?_
      clear C3
      rintro e w3 ⟨rfl, hD3, hb3⟩
      have HD3 : Hid (D F w3 b a xs (bitsS xs s1 8)) := hD3
      have HB3 : Hid (Below b w w3) := HB2.out.trans hb3
      clear hD3 hb3
      go_wp2_with fail
      go_ret
      exact ⟨ret_int (by omega), HD3.out, HB3.out⟩
    · rw [if_neg h2, if_neg h2]
      have q2' : (bits .and .u64 (f : Int) 64 == 0) = false := by rw [q2]; simpa using h2
      clear q2
      go_enter Tryf.func37, Tryf.ntmps37
      go_wp2_with fail
      refine (align_any H.out).mono ?_
      rintro e w1 ⟨rfl, hD1, hb1⟩
      have HD1 : Hid (D F w1 b a xs (alignS s)) := hD1
      have HB1 : Hid (Below b w w1) := hb1
      clear hD1 hb1
      go_wp2_with fail
      have C2 := bits_any' (K := 8) 8 rfl (by omega) HD1.out
      rw [← E1.out, ← E2.out] at C2
      refine C2.mono ?_
      clear C2
      rintro e w2 ⟨rfl, hD2, hb2⟩
      have HD2 : Hid (D F w2 b a xs s1) := hD2
      have HB2 : Hid (Below b w w2) := HB1.out.trans hb2
      clear hD2 hb2
      go_wp2_with (go_at_call 31; refine (fail_any fm_frag _ HD2.out (errorf_frag _)).mono ?_; rintro e w3 ⟨rfl, hD3, hb3⟩)
      go_ret
      exact ⟨rfl, hD3, HB2.out.trans hb3⟩

end Go.Proofs.Qxb6614317aFmt
