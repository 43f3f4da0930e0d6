/- constrained, whatever the range; within. -/
import Derived.Test.Qxb6614317aFmtCon
namespace Go.Proofs.Qxb6614317aFmt
open Go.RowKit Go.Extern.Stop Go.Stop Go.Extern

theorem bits_any' {F : Interp} {w : World} {b : Nat} {a : Option Addr} {xs : List Int} {s : St} {K : Int} (k : Nat) (hK : K = k) (hk : k ≤ 64) (hD : D F w b a xs s) :
    Calls Tryf.prog 26 #[.pointer (some ⟨b, 0, none⟩), .int .i64 K] w fun e w' => e = .returned (.int .u64 (bitsV xs s k)) ∧ D F w' b a xs (bitsS xs s k) ∧ Below b w w' := by
  subst hK
  exact bits_any k hk hD

theorem finV_pos {r v : Nat} (h : r < v) : finV r v = 0 := if_pos h
theorem finV_neg {r v : Nat} (h : ¬ r < v) : finV r v = v := if_neg h
theorem finS_pos {r v : Nat} {s : St} (h : r < v) : finS r v s = ⟨s.n, true⟩ := if_pos h
theorem finS_neg {r v : Nat} {s : St} (h : ¬ r < v) : finS r v s = s := if_neg h
theorem finV_le (r v : Nat) : finV r v ≤ r := by unfold finV; split <;> omega

/-- A range of 255 or more: what is read, and the state behind it. 'r8 r' is the greatest number of octets, less 1. -/
def r8 (r : Nat) : Nat := (wid r + 7) / 8 - 1
def octN (xs : List Int) (s : St) (r : Nat) : Nat := finV (r8 r) (smV xs s (r8 r))
def octS (xs : List Int) (s : St) (r : Nat) : St := finS (r8 r) (smV xs s (r8 r)) (smS xs s (r8 r))
def rawV (xs : List Int) (s : St) (r : Nat) : Nat :=
  if r < 255 then smV xs s r else if r = 255 then bitsV xs (alignS s) 8 else if r ≤ 65535 then bitsV xs (alignS s) 16 else bitsV xs (alignS (octS xs s r)) (8 * (octN xs s r + 1))
def rawS (xs : List Int) (s : St) (r : Nat) : St :=
  if r < 255 then smS xs s r else if r = 255 then bitsS xs (alignS s) 8 else if r ≤ 65535 then bitsS xs (alignS s) 16 else bitsS xs (alignS (octS xs s r)) (8 * (octN xs s r + 1))
def conV (xs : List Int) (s : St) (r : Nat) : Nat := finV r (rawV xs s r)
def conS (xs : List Int) (s : St) (r : Nat) : St := finS r (rawV xs s r) (rawS xs s r)

set_option maxHeartbeats 1000000 in
set_option maxRecDepth 100000 in
/-- The ranges of 255 and of 256 to 65535. -/
theorem con_mid {F : Interp} {w : World} {b : Nat} {a : Option Addr} {xs : List Int} {s : St} (LB UB : Int) (r : Nat) (k : Nat) (hs : UB - LB = r) (hl : 0 ≤ LB) (hu : UB < 18446744073709551616) (hr : (r = 255 ∧ k = 8) ∨ (255 < r ∧ r ≤ 65535 ∧ k = 16)) (hD : D F w b a xs s) :
    Calls Tryf.prog 32 #[.pointer (some ⟨b, 0, none⟩), .int .u64 LB, .int .u64 UB] w fun e w' => e = .returned (.int .u64 (LB + finV r (bitsV xs (alignS s) k))) ∧ D F w' b a xs (finS r (bitsV xs (alignS s) k) (bitsS xs (alignS s) k)) ∧ Below b w w' := by
  have H : Hid (D F w b a xs s) := hD
  clear hD
  have hle : LB ≤ UB := by omega
  rcases hr with ⟨rfl, rfl⟩ | ⟨h1, h2, rfl⟩
  · go_enter Tryf.func32, Tryf.ntmps32
    go_wp2_with (first
      | (go_at_call 36; refine (align_any H.out).mono ?_; rintro e w0 ⟨rfl, hD0, hb0⟩; have HD0 : Hid (D F w0 b a xs (alignS s)) := hD0; clear hD0)
      | (go_at_call 26; refine (bits_any' 8 rfl (by omega) HD0.out).mono ?_; rintro e w1 ⟨rfl, hD1, hb⟩; have HD1 : Hid (D F w1 b a xs (bitsS xs (alignS s) 8)) := hD1; clear hD1)
      | (go_at_call 31; refine (fail_any fm_above _ (HD1.out.alloc _) (errorf_above F _ _ _ _ (HD1.out.alloc _).tape (by simp [go_sem]; rfl) (by simp [go_sem]; rfl))).mono ?_; rintro e w2 ⟨rfl, hD2, hb2⟩))
    · have hc : 255 < bitsV xs (alignS s) 8 := by omega
      go_ret
      rw [finV_pos hc, finS_pos hc]
      exact ⟨ret_int (by simp), hD2, hb0.trans (hb.trans (((Below.refl _ _).alloc (Nat.le_of_lt HD1.out.lt) _).trans hb2))⟩
    · have hc : ¬ 255 < bitsV xs (alignS s) 8 := by omega
      go_ret
      rw [finV_neg hc, finS_neg hc]
      exact ⟨rfl, HD1.out, hb0.trans hb⟩
  · have h3 : 255 < (r : Int) := by omega
    have h4 : (r : Int) ≤ 65535 := by omega
    go_enter Tryf.func32, Tryf.ntmps32
    go_wp2_with (first
      | (go_at_call 36; refine (align_any H.out).mono ?_; rintro e w0 ⟨rfl, hD0, hb0⟩; have HD0 : Hid (D F w0 b a xs (alignS s)) := hD0; clear hD0)
      | (go_at_call 26; refine (bits_any' 16 rfl (by omega) HD0.out).mono ?_; rintro e w1 ⟨rfl, hD1, hb⟩; have HD1 : Hid (D F w1 b a xs (bitsS xs (alignS s) 16)) := hD1; clear hD1)
      | (go_at_call 31; refine (fail_any fm_above _ (HD1.out.alloc _) (errorf_above F _ _ _ _ (HD1.out.alloc _).tape (by simp [go_sem]; rfl) (by simp [go_sem]; rfl))).mono ?_; rintro e w2 ⟨rfl, hD2, hb2⟩))
    · have hc : r < bitsV xs (alignS s) 16 := by assumption
      go_ret
      rw [finV_pos hc, finS_pos hc]
      exact ⟨ret_int (by simp), hD2, hb0.trans (hb.trans (((Below.refl _ _).alloc (Nat.le_of_lt HD1.out.lt) _).trans hb2))⟩
    · have hc : ¬ r < bitsV xs (alignS s) 16 := by assumption
      go_ret
      rw [finV_neg hc, finS_neg hc]
      exact ⟨rfl, HD1.out, hb0.trans hb⟩

set_option maxHeartbeats 1000000 in
set_option maxRecDepth 100000 in
/-- The ranges beyond 65535. -/
theorem con_big {F : Interp} {w : World} {b : Nat} {a : Option Addr} {xs : List Int} {s : St} (LB UB : Int) (r : Nat) (hs : UB - LB = r) (hl : 0 ≤ LB) (hu : UB < 18446744073709551616) (hr : 65535 < r) (hD : D F w b a xs s) :
    Calls Tryf.prog 32 #[.pointer (some ⟨b, 0, none⟩), .int .u64 LB, .int .u64 UB] w fun e w' => e = .returned (.int .u64 (LB + finV r (bitsV xs (alignS (octS xs s r)) (8 * (octN xs s r + 1))))) ∧
      D F w' b a xs (finS r (bitsV xs (alignS (octS xs s r)) (8 * (octN xs s r + 1))) (bitsS xs (alignS (octS xs s r)) (8 * (octN xs s r + 1)))) ∧ Below b w w' := by
  have H : Hid (D F w b a xs s) := hD
  clear hD
  have hle : LB ≤ UB := by omega
  have hk1 := wid_le r (by omega)
  have hk0 := wid_pos r (by omega) (by omega)
  have h3 : 65535 < (r : Int) := by omega
  have hm : finV (r8 r) (smV xs s (r8 r)) ≤ r8 r := finV_le _ _
  have hr8 : r8 r + 1 = (wid r + 7) / 8 := by unfold r8; omega
  have hr7 : r8 r ≤ 7 := by omega
  have HR : Hid (r8 r + 1 = (wid r + 7) / 8) := hr8
  clear hr8
  go_enter Tryf.func32, Tryf.ntmps32
  go_wp2_with (go_at_call 35; refine (len_any r _ (by omega)).mono ?_; rintro e w' ⟨rfl, rfl⟩)
  refine (con_small 1 (((wid r : Nat) + 7 : Int) / 8) (r8 r) (by have := HR.out; omega) (by omega) (by omega) (by omega) H.out).mono ?_
  rintro e w0 ⟨rfl, hD0, hb0⟩
  have HD0 : Hid (D F w0 b a xs (octS xs s r)) := hD0
  have HB0 : Hid (Below b w w0) := hb0
  clear hD0 hb0
  have hm' : (1 : Int) + (finV (r8 r) (smV xs s (r8 r)) : Int) ≤ 8 := by omega
  go_wp2_with fail
  refine (align_any HD0.out).mono ?_
  rintro e w1 ⟨rfl, hD1, hb1⟩
  have HD1 : Hid (D F w1 b a xs (alignS (octS xs s r))) := hD1
  have HB1 : Hid (Below b w w1) := HB0.out.trans hb1
  clear hD1 hb1 HB0 HD0
  go_wp2_with fail
  refine (bits_any' (8 * (octN xs s r + 1)) (by unfold octN; omega) (by unfold octN; omega) HD1.out).mono ?_
  rintro e w2 ⟨rfl, hD2, hb2⟩
  have HD2 : Hid (D F w2 b a xs (bitsS xs (alignS (octS xs s r)) (8 * (octN xs s r + 1)))) := hD2
  have HB2 : Hid (Below b w w2) := HB1.out.trans hb2
  clear hD2 hb2 HB1 HD1
  go_wp2_with (go_at_call 31; refine (fail_any fm_above _ (HD2.out.alloc _) (errorf_above F _ _ _ _ (HD2.out.alloc _).tape (by simp [go_sem]; rfl) (by simp [go_sem]; rfl))).mono ?_; rintro e w3 ⟨rfl, hD3, hb3⟩)
  · have hc : r < bitsV xs (alignS (octS xs s r)) (8 * (octN xs s r + 1)) := by omega
    go_ret
    rw [finV_pos hc, finS_pos hc]
    exact ⟨ret_int (by simp), hD3, HB2.out.trans (((Below.refl _ _).alloc (Nat.le_of_lt HD2.out.lt) _).trans hb3)⟩
  · have hc : ¬ r < bitsV xs (alignS (octS xs s r)) (8 * (octN xs s r + 1)) := by omega
    go_ret
    rw [finV_neg hc, finS_neg hc]
    exact ⟨rfl, HD2.out, HB2.out⟩

theorem con_any {F : Interp} {w : World} {b : Nat} {a : Option Addr} {xs : List Int} {s : St} (LB UB : Int) (r : Nat) (hs : UB - LB = r) (hl : 0 ≤ LB) (hu : UB < 18446744073709551616) (hD : D F w b a xs s) :
    Calls Tryf.prog 32 #[.pointer (some ⟨b, 0, none⟩), .int .u64 LB, .int .u64 UB] w fun e w' => e = .returned (.int .u64 (LB + conV xs s r)) ∧ D F w' b a xs (conS xs s r) ∧ Below b w w' := by
  unfold conV conS rawV rawS
  by_cases h1 : r < 255
  · rw [if_pos h1, if_pos h1]
    exact con_small LB UB r hs hl hu h1 hD
  rw [if_neg h1, if_neg h1]
  by_cases h2 : r = 255
  · rw [if_pos h2, if_pos h2]
    exact con_mid LB UB r 8 hs hl hu (.inl ⟨h2, rfl⟩) hD
  rw [if_neg h2, if_neg h2]
  by_cases h3 : r ≤ 65535
  · rw [if_pos h3, if_pos h3]
    exact con_mid LB UB r 16 hs hl hu (.inr ⟨by omega, h3, rfl⟩) hD
  rw [if_neg h3, if_neg h3]
  exact con_big LB UB r hs hl hu (by omega) hD

/-- within: what it answers beyond the lower bound where the extension bit is clear. -/
def witV (xs : List Int) (s : St) (lb r : Nat) : Nat := if boolV xs s = true then 0 else lb + conV xs (bitsS xs s 1) r
def witS (xs : List Int) (s : St) (r : Nat) : St := if boolV xs s = true then ⟨(bitsS xs s 1).n, true⟩ else conS xs (bitsS xs s 1) r

theorem within_any {F : Interp} {w : World} {b : Nat} {a : Option Addr} {xs : List Int} {s : St} (LB UB : Int) (lb r : Nat) (hl : LB = lb) (hs : UB - LB = r) (hu : UB < 18446744073709551616) (hD : D F w b a xs s) :
    Calls Tryf.prog 27 #[.pointer (some ⟨b, 0, none⟩), .int .u64 LB, .int .u64 UB] w fun e w' => e = .returned (.int .u64 (witV xs s lb r)) ∧ D F w' b a xs (witS xs s r) ∧ Below b w w' := by
  have H : Hid (D F w b a xs s) := hD
  have HS : Hid (UB - LB = r) := hs
  have HL : Hid (LB = lb) := hl
  have h0 : 0 ≤ LB := by omega
  clear hD hs hl
  unfold witV witS
  cases hv : boolV xs s with
  | true =>
    go_enter Tryf.func27, Tryf.ntmps27
    go_wp2_with fail
    refine (bool_any H.out).mono ?_
    rintro e w1 ⟨rfl, hD1, hb1⟩
    have HD1 : Hid (D F w1 b a xs (bitsS xs s 1)) := hD1
    have HB1 : Hid (Below b w w1) := hb1
    clear hD1 hb1
    go_wp2_with (go_at_call 31; refine (fail_any fm_outside _ (HD1.out.alloc _) (errorf_outside F _ _ _ _ (HD1.out.alloc _).tape (by simp [go_sem]; rfl) (by simp [go_sem]; rfl))).mono ?_; rintro e w3 ⟨rfl, hD3, hb3⟩)
    go_ret
    exact ⟨rfl, hD3, HB1.out.trans (((Below.refl _ _).alloc (Nat.le_of_lt HD1.out.lt) _).trans hb3)⟩
  | false =>
    go_enter Tryf.func27, Tryf.ntmps27
    go_wp2_with fail
    refine (bool_any H.out).mono ?_
    rintro e w1 ⟨rfl, hD1, hb1⟩
    have HD1 : Hid (D F w1 b a xs (bitsS xs s 1)) := hD1
    have HB1 : Hid (Below b w w1) := hb1
    clear hD1 hb1
    go_wp2_with fail
    refine (con_any LB UB r HS.out h0 hu HD1.out).mono ?_
    rintro e w2 ⟨rfl, hD2, hb2⟩
    have HD2 : Hid (D F w2 b a xs (conS xs (bitsS xs s 1) r)) := hD2
    have HB2 : Hid (Below b w w2) := HB1.out.trans hb2
    clear hD2 hb2
    go_wp2_with fail
    go_ret
    exact ⟨ret_int (by rw [HL.out]), HD2.out, HB2.out⟩

theorem zwithin_any {F : Interp} {w : World} {b : Nat} {a : Option Addr} {xs : List Int} {s : St} (LB UB : Int) (lb r : Nat) (hl : LB = lb) (hs : UB - LB = r) (hu : UB < 18446744073709551616) (hD : D F w b a xs s) :
    Calls Tryf.prog 18 #[.pointer (some ⟨b, 0, none⟩), .int .u64 LB, .int .u64 UB] w fun e w' => e = .returned (.int .u64 (witV xs s lb r)) ∧ D F w' b a xs (witS xs s r) ∧ Below b w w' := by
  have H : Hid (D F w b a xs s) := hD
  have HS : Hid (UB - LB = r) := hs
  have HL : Hid (LB = lb) := hl
  clear hD hs hl
  go_enter Tryf.func18, Tryf.ntmps18
  go_wp2_with (go_at_call 27; refine (within_any LB UB lb r HL.out HS.out hu H.out).mono ?_; rintro e w1 ⟨rfl, hD1, hb1⟩)
  go_ret
  exact ⟨rfl, hD1, hb1⟩

end Go.Proofs.Qxb6614317aFmt
