/- bool, Len64, constrained where the range is below 255. -/
import Derived.Test.Qxb6614317aFmtZz
import Derived.Test.Qxb6614317aFmtShelf
namespace Go.Proofs.Qxb6614317aFmt
open Go.RowKit Go.Extern.Stop Go.Stop Go.Extern

theorem ret_bool {b c : Bool} (h : b = c) : Ending.returned (.bool b) = .returned (.bool c) := by rw [h]
theorem ret_int {k : IntKind} {a b : Int} (h : a = b) : Ending.returned (.int k a) = .returned (.int k b) := by rw [h]

def boolV (xs : List Int) (s : St) : Bool := decide (bitsV xs s 1 = 1)

theorem bool_any {F : Interp} {w : World} {b : Nat} {a : Option Addr} {xs : List Int} {s : St} (hD : D F w b a xs s) :
    Calls Tryf.prog 30 #[.pointer (some ⟨b, 0, none⟩)] w fun e w' => e = .returned (.bool (boolV xs s)) ∧ D F w' b a xs (bitsS xs s 1) ∧ Below b w w' := by
  have H : Hid (D F w b a xs s) := hD
  clear hD
  go_enter Tryf.func30, Tryf.ntmps30
  go_wp2_with (go_at_call 26; refine (bits_any 1 (by omega) H.out).mono ?_; rintro e w1 ⟨rfl, hD1, hb⟩)
  go_ret
  refine ⟨ret_bool ?_, hD1, hb⟩
  rw [boolV, Bool.eq_iff_iff]
  simp
  omega

/-- The width of a number: math/bits.Len64. -/
def wid (r : Nat) : Nat := Lib.bitLen r
theorem wid_le (r : Nat) (h : r < 18446744073709551616) : wid r ≤ 64 := Lib.bitLen_le r 64 (by omega) h
theorem wid_pos (r : Nat) (h : r < 18446744073709551616) (h0 : r ≠ 0) : 1 ≤ wid r := (Lib.bitLenAux_bounds 64 r h h0).1

theorem len_any (r : Nat) (w : World) (h : r < 18446744073709551616) :
    Calls Tryf.prog 35 #[.int .u64 r] w fun e w' => e = .returned (.int .i64 (wid r)) ∧ w = w' := by
  refine (Tryf.bits_Len64 r w (by omega) (by omega)).mono ?_
  rintro e w' ⟨rfl, rfl⟩
  exact ⟨by simp [wid], rfl⟩

/-- What is read for a range r below 255, and the state behind it. -/
def smV (xs : List Int) (s : St) (r : Nat) : Nat := if r = 0 then 0 else bitsV xs s (wid r)
def smS (xs : List Int) (s : St) (r : Nat) : St := if r = 0 then s else bitsS xs s (wid r)
/-- Beyond the range: a fault, and the lower bound. -/
def finV (r v : Nat) : Nat := if r < v then 0 else v
def finS (r v : Nat) (s : St) : St := if r < v then ⟨s.n, true⟩ else s

set_option maxHeartbeats 1000000 in
set_option maxRecDepth 100000 in
theorem con_small {F : Interp} {w : World} {b : Nat} {a : Option Addr} {xs : List Int} {s : St} (LB UB : Int) (r : Nat) (hs : UB - LB = r) (hl : 0 ≤ LB) (hu : UB < 18446744073709551616) (hr : r < 255) (hD : D F w b a xs s) :
    Calls Tryf.prog 32 #[.pointer (some ⟨b, 0, none⟩), .int .u64 LB, .int .u64 UB] w fun e w' => e = .returned (.int .u64 (LB + finV r (smV xs s r))) ∧ D F w' b a xs (finS r (smV xs s r) (smS xs s r)) ∧ Below b w w' := by
  have H : Hid (D F w b a xs s) := hD
  clear hD
  have hle : LB ≤ UB := by omega
  have hr' : (r : Int) < 255 := by omega
  by_cases h0 : r = 0
  · subst h0
    have e1 : smV xs s 0 = 0 := by simp [smV]
    have e2 : smS xs s 0 = s := by simp [smS]
    rw [e1, e2]
    clear e1 e2
    go_enter Tryf.func32, Tryf.ntmps32
    go_wp2_with fail
    go_ret
    exact ⟨ret_int (by simp [finV]), H.out, Below.refl _ _⟩
  · have h0' : ((r : Int) == 0) = false := by simp; omega
    have hk := wid_le r (by omega)
    have e1 : smV xs s r = bitsV xs s (wid r) := by simp [smV, h0]
    have e2 : smS xs s r = bitsS xs s (wid r) := by simp [smS, h0]
    rw [e1, e2]
    clear e1 e2 h0
    go_enter Tryf.func32, Tryf.ntmps32
    go_wp2_with (first
      | (go_at_call 35; refine (len_any r _ (by omega)).mono ?_; rintro e w' ⟨rfl, rfl⟩)
      | (go_at_call 26; refine (bits_any (wid r) hk H.out).mono ?_; rintro e w1 ⟨rfl, hD1, hb⟩; have HD1 : Hid (D F w1 b a xs (bitsS xs s (wid r))) := hD1; clear hD1)
      | (go_at_call 31; refine (fail_any fm_above _ (HD1.out.alloc _) (errorf_above F _ _ _ _ (HD1.out.alloc _).tape (by simp [go_sem]; rfl) (by simp [go_sem]; rfl))).mono ?_; rintro e w2 ⟨rfl, hD2, hb2⟩))
    · have hc : r < bitsV xs s (wid r) := by assumption
      go_ret
      rw [finV, finS, if_pos hc, if_pos hc]
      exact ⟨ret_int (by simp), hD2, hb.trans (((Below.refl _ _).alloc (Nat.le_of_lt HD1.out.lt) _).trans hb2)⟩
    · have hc : ¬ r < bitsV xs s (wid r) := by assumption
      go_ret
      rw [finV, finS, if_neg hc, if_neg hc]
      exact ⟨rfl, HD1.out, hb⟩

end Go.Proofs.Qxb6614317aFmt
