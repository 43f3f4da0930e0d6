/- The walk of FnDecoderBitsSplitAtAnyCut: its three ways. -/
import Derived.Test.Qxb6614317aFmtSplitWalk
namespace Go.Proofs.Qxb6614317aFmt.fnDecoderBitsSplitAtAnyCut
open Go.RowKit Go.Extern.Stop Go.Stop Go.Extern

set_option maxHeartbeats 1000000 in
set_option maxRecDepth 100000 in
theorem caseA (F : Interp) (a0 : Option Addr) (cap0 : Nat) (xs : List Int) (n p q : Nat) (w : World) (hF : F.answers w.tape)
    (hcl : Calls Tryf.prog 10 #[.slice a0 xs.length cap0] w fun e w' => ∃ a', e = .returned (.slice a' xs.length xs.length) ∧ Clones w w' a' xs)
    (hle : (xs.length : Int) ≤ 1048576) (hn : n ≤ 8 * xs.length) (hpq : p + q ≤ 64) (hA : n + p + q ≤ 8 * xs.length) :
    Calls Tryf.prog 4 #[.slice a0 xs.length cap0, .int .i64 n, .int .i64 p, .int .i64 q] w fun e w' => e = .returned (.bool true) ∧ Below w.heap.size w w' := by
  have HF : Hid (F.answers w.tape) := hF
  have HCL : Hid (Calls Tryf.prog 10 #[.slice a0 xs.length cap0] w fun e w' => ∃ a', e = .returned (.slice a' xs.length xs.length) ∧ Clones w w' a' xs) := hcl
  clear hF hcl
  go_enter Tryf.func4, Tryf.ntmps4
  go_wp2_with (go_at_call 16; refine (zz_yes _ _ _ _ _ _ _ hle).mono ?_; rintro e w' ⟨rfl, rfl⟩)
  refine HCL.out.mono ?_
  rintro e w1 ⟨a', rfl, hC⟩
  have HC : Hid (Clones w w1 a' xs) := hC
  have ht1 : Hid (F.answers w1.tape) := by have := HC.out.below.tape; rw [Hid, this]; exact HF.out
  clear hC HCL
  go_wp2_with fail
  refine (new_any (F := F) (n := n) rfl rfl HC.out.data ht1.out (by omega) (by omega) HC.out.bytes).mono ?_
  rintro e w2 ⟨rfl, hD2, hb2⟩
  have HD2 : Hid (D F w2 w1.heap.size a' xs ⟨n, false⟩) := hD2
  have HB2 : Hid (Below w1.heap.size w1 w2) := hb2
  clear hD2 hb2
  go_wp2_with fail
  refine (zbits_go p rfl (by omega) (by omega) HD2.out).mono ?_
  rintro e w3 ⟨rfl, hD3, hb3⟩
  have HD3 : Hid (D F w3 w1.heap.size a' xs ⟨n + p, false⟩) := hD3
  have HB3 : Hid (Below w1.heap.size w1 w3) := HB2.out.trans hb3
  clear hD3 hb3 HB2 HD2
  go_wp2_with fail
  refine (zbits_go q rfl (by omega) (by omega) HD3.out).mono ?_
  rintro e w4 ⟨rfl, hD4, hb4⟩
  have HD4 : Hid (D F w4 w1.heap.size a' xs ⟨n + p + q, false⟩) := hD4
  have HB4 : Hid (Below w1.heap.size w1 w4) := HB3.out.trans hb4
  clear hD4 hb4 HD3 HB3
  go_wp2_with fail
  refine (zn_any HD4.out).mono ?_
  rintro e w5 ⟨rfl, rfl⟩
  go_wp2_with fail
  refine (zerr_any HD4.out).mono ?_
  rintro e w5 ⟨er, rfl, hne, hgd, rfl⟩
  go_wp2_with fail
  clear hne hgd
  refine (new_any (F := F) (n := n) rfl rfl (HD4.out.data.mono (Nat.le_of_lt HD4.out.lt)) HD4.out.tape (by omega) (by omega) HC.out.bytes).mono ?_
  rintro e w5 ⟨rfl, hD5, hb5⟩
  have HD5 : Hid (D F w5 w4.heap.size a' xs ⟨n, false⟩) := hD5
  have HB5 : Hid (Below w1.heap.size w1 w5) := HB4.out.trans (hb5.mono (Nat.le_of_lt HD4.out.lt))
  have hlt5 : w1.heap.size ≤ w4.heap.size := Nat.le_of_lt HD4.out.lt
  clear hD5 hb5 HD4 HB4
  go_wp2_with fail
  refine (zbits_go (p + q) (by omega) (by omega) (by omega) HD5.out).mono ?_
  rintro e w6 ⟨rfl, hD6, hb6⟩
  have HD6 : Hid (D F w6 w4.heap.size a' xs ⟨n + (p + q), false⟩) := hD6
  have HB6 : Hid (Below w1.heap.size w1 w6) := HB5.out.trans (hb6.mono hlt5)
  clear hD6 hb6 HD5 HB5
  go_wp2_with fail
  refine (zn_any HD6.out).mono ?_
  rintro e w7 ⟨rfl, rfl⟩
  go_wp2_with fail
  refine (zerr_any HD6.out).mono ?_
  rintro e w7 ⟨er2, rfl, hne, hgd, rfl⟩
  have hlt6 : w.heap.size ≤ w1.heap.size := HC.out.below.size
  have f1 : ((rd xs n p : Int) / 2 ^ p != 0) = false := by simp [rd_shr]
  have f2 : ((rd xs n (p + q) : Int) != bits .or .u64 (IntKind.u64.wrap ((rd xs n p : Int) * 2 ^ q)) (rd xs (n + p) q : Int)) = false := by rw [← split_value xs n p q hpq]; simp
  by_cases hx : 8 ≤ p + q
  · obtain ⟨g, rfl, hcell⟩ := HD6.out.cellAt (by omega)
    have hc := hcell (n / 8) (by omega)
    have hi : (n : Int) / 8 < (xs.length : Int) := by omega
    clear hcell
    by_cases hz : n % 8 = 0
    · have f3 : ((rd xs n (p + q) : Int) / 2 ^ (p + q - 8) != IntKind.u64.wrap (xs[n / 8]?.getD 0)) = false := by rw [top_value xs n (p + q) HC.out.bytes hz hx]; simp
      have hz' : (n : Int) % 8 = 0 := by omega
      clear hz
      go_wp2_with fail
      all_goals (go_ret; exact ⟨rfl, HC.out.below.trans (HB6.out.mono hlt6)⟩)
    · have hz' : ¬ (n : Int) % 8 = 0 := by omega
      clear hz
      go_wp2_with fail
      all_goals (go_ret; exact ⟨rfl, HC.out.below.trans (HB6.out.mono hlt6)⟩)
  · go_wp2_with fail
    all_goals (go_ret; exact ⟨rfl, HC.out.below.trans (HB6.out.mono hlt6)⟩)

set_option maxHeartbeats 1000000 in
set_option maxRecDepth 100000 in
theorem caseB (F : Interp) (a0 : Option Addr) (cap0 : Nat) (xs : List Int) (n p q : Nat) (w : World) (hF : F.answers w.tape)
    (hcl : Calls Tryf.prog 10 #[.slice a0 xs.length cap0] w fun e w' => ∃ a', e = .returned (.slice a' xs.length xs.length) ∧ Clones w w' a' xs)
    (hle : (xs.length : Int) ≤ 1048576) (hn : n ≤ 8 * xs.length) (hpq : p + q ≤ 64) (hA : n + p ≤ 8 * xs.length) (hB : 8 * xs.length < n + p + q) :
    Calls Tryf.prog 4 #[.slice a0 xs.length cap0, .int .i64 n, .int .i64 p, .int .i64 q] w fun e w' => e = .returned (.bool true) ∧ Below w.heap.size w w' := by
  have HF : Hid (F.answers w.tape) := hF
  have HCL : Hid (Calls Tryf.prog 10 #[.slice a0 xs.length cap0] w fun e w' => ∃ a', e = .returned (.slice a' xs.length xs.length) ∧ Clones w w' a' xs) := hcl
  clear hF hcl
  go_enter Tryf.func4, Tryf.ntmps4
  go_wp2_with (go_at_call 16; refine (zz_yes _ _ _ _ _ _ _ hle).mono ?_; rintro e w' ⟨rfl, rfl⟩)
  refine HCL.out.mono ?_
  rintro e w1 ⟨a', rfl, hC⟩
  have HC : Hid (Clones w w1 a' xs) := hC
  have ht1 : Hid (F.answers w1.tape) := by have := HC.out.below.tape; rw [Hid, this]; exact HF.out
  clear hC HCL
  go_wp2_with fail
  refine (new_any (F := F) (n := n) rfl rfl HC.out.data ht1.out (by omega) (by omega) HC.out.bytes).mono ?_
  rintro e w2 ⟨rfl, hD2, hb2⟩
  have HD2 : Hid (D F w2 w1.heap.size a' xs ⟨n, false⟩) := hD2
  have HB2 : Hid (Below w1.heap.size w1 w2) := hb2
  clear hD2 hb2
  go_wp2_with fail
  refine (zbits_go p rfl (by omega) (by omega) HD2.out).mono ?_
  rintro e w3 ⟨rfl, hD3, hb3⟩
  have HD3 : Hid (D F w3 w1.heap.size a' xs ⟨n + p, false⟩) := hD3
  have HB3 : Hid (Below w1.heap.size w1 w3) := HB2.out.trans hb3
  clear hD3 hb3 HB2 HD2
  go_wp2_with fail
  refine (zbits_cut q rfl (by omega) (by omega) HD3.out).mono ?_
  rintro e w4 ⟨rfl, hD4, hb4⟩
  have HD4 : Hid (D F w4 w1.heap.size a' xs ⟨n + p, true⟩) := hD4
  have HB4 : Hid (Below w1.heap.size w1 w4) := HB3.out.trans hb4
  clear hD4 hb4 HD3 HB3
  go_wp2_with fail
  refine (zn_any HD4.out).mono ?_
  rintro e w5 ⟨rfl, rfl⟩
  go_wp2_with fail
  refine (zerr_any HD4.out).mono ?_
  rintro e w5 ⟨er, rfl, hne, hgd, rfl⟩
  go_wp2_with fail
  clear hne hgd
  refine (new_any (F := F) (n := n) rfl rfl (HD4.out.data.mono (Nat.le_of_lt HD4.out.lt)) HD4.out.tape (by omega) (by omega) HC.out.bytes).mono ?_
  rintro e w5 ⟨rfl, hD5, hb5⟩
  have HD5 : Hid (D F w5 w4.heap.size a' xs ⟨n, false⟩) := hD5
  have HB5 : Hid (Below w1.heap.size w1 w5) := HB4.out.trans (hb5.mono (Nat.le_of_lt HD4.out.lt))
  have hlt5 : w1.heap.size ≤ w4.heap.size := Nat.le_of_lt HD4.out.lt
  clear hD5 hb5 HD4 HB4
  go_wp2_with fail
  refine (zbits_cut (p + q) (by omega) (by omega) (by omega) HD5.out).mono ?_
  rintro e w6 ⟨rfl, hD6, hb6⟩
  have HD6 : Hid (D F w6 w4.heap.size a' xs ⟨n, true⟩) := hD6
  have HB6 : Hid (Below w1.heap.size w1 w6) := HB5.out.trans (hb6.mono hlt5)
  clear hD6 hb6 HD5 HB5
  go_wp2_with fail
  refine (zn_any HD6.out).mono ?_
  rintro e w7 ⟨rfl, rfl⟩
  go_wp2_with fail
  refine (zerr_any HD6.out).mono ?_
  rintro e w7 ⟨er2, rfl, hne, hgd, rfl⟩
  have hlt6 : w.heap.size ≤ w1.heap.size := HC.out.below.size
  have f1 : ((rd xs n p : Int) / 2 ^ p != 0) = false := by simp [rd_shr]
  go_wp2_with fail
  all_goals (go_ret; exact ⟨rfl, HC.out.below.trans (HB6.out.mono hlt6)⟩)

set_option maxHeartbeats 1000000 in
set_option maxRecDepth 100000 in
theorem caseC (F : Interp) (a0 : Option Addr) (cap0 : Nat) (xs : List Int) (n p q : Nat) (w : World) (hF : F.answers w.tape)
    (hcl : Calls Tryf.prog 10 #[.slice a0 xs.length cap0] w fun e w' => ∃ a', e = .returned (.slice a' xs.length xs.length) ∧ Clones w w' a' xs)
    (hle : (xs.length : Int) ≤ 1048576) (hn : n ≤ 8 * xs.length) (hpq : p + q ≤ 64) (hC : 8 * xs.length < n + p) :
    Calls Tryf.prog 4 #[.slice a0 xs.length cap0, .int .i64 n, .int .i64 p, .int .i64 q] w fun e w' => e = .returned (.bool true) ∧ Below w.heap.size w w' := by
  have HF : Hid (F.answers w.tape) := hF
  have HCL : Hid (Calls Tryf.prog 10 #[.slice a0 xs.length cap0] w fun e w' => ∃ a', e = .returned (.slice a' xs.length xs.length) ∧ Clones w w' a' xs) := hcl
  clear hF hcl
  go_enter Tryf.func4, Tryf.ntmps4
  go_wp2_with (go_at_call 16; refine (zz_yes _ _ _ _ _ _ _ hle).mono ?_; rintro e w' ⟨rfl, rfl⟩)
  refine HCL.out.mono ?_
  rintro e w1 ⟨a', rfl, hC⟩
  have HC : Hid (Clones w w1 a' xs) := hC
  have ht1 : Hid (F.answers w1.tape) := by have := HC.out.below.tape; rw [Hid, this]; exact HF.out
  clear hC HCL
  go_wp2_with fail
  refine (new_any (F := F) (n := n) rfl rfl HC.out.data ht1.out (by omega) (by omega) HC.out.bytes).mono ?_
  rintro e w2 ⟨rfl, hD2, hb2⟩
  have HD2 : Hid (D F w2 w1.heap.size a' xs ⟨n, false⟩) := hD2
  have HB2 : Hid (Below w1.heap.size w1 w2) := hb2
  clear hD2 hb2
  go_wp2_with fail
  refine (zbits_cut p rfl (by omega) (by omega) HD2.out).mono ?_
  rintro e w3 ⟨rfl, hD3, hb3⟩
  have HD3 : Hid (D F w3 w1.heap.size a' xs ⟨n, true⟩) := hD3
  have HB3 : Hid (Below w1.heap.size w1 w3) := HB2.out.trans hb3
  clear hD3 hb3 HB2 HD2
  go_wp2_with fail
  refine (zbits_bad q rfl (by omega) HD3.out).mono ?_
  rintro e w4 ⟨rfl, hD4, hb4⟩
  have HD4 : Hid (D F w4 w1.heap.size a' xs ⟨n, true⟩) := hD4
  have HB4 : Hid (Below w1.heap.size w1 w4) := HB3.out.trans hb4
  clear hD4 hb4 HD3 HB3
  go_wp2_with fail
  refine (zn_any HD4.out).mono ?_
  rintro e w5 ⟨rfl, rfl⟩
  go_wp2_with fail
  refine (zerr_any HD4.out).mono ?_
  rintro e w5 ⟨er, rfl, hne, hgd, rfl⟩
  go_wp2_with fail
  clear hne hgd
  refine (new_any (F := F) (n := n) rfl rfl (HD4.out.data.mono (Nat.le_of_lt HD4.out.lt)) HD4.out.tape (by omega) (by omega) HC.out.bytes).mono ?_
  rintro e w5 ⟨rfl, hD5, hb5⟩
  have HD5 : Hid (D F w5 w4.heap.size a' xs ⟨n, false⟩) := hD5
  have HB5 : Hid (Below w1.heap.size w1 w5) := HB4.out.trans (hb5.mono (Nat.le_of_lt HD4.out.lt))
  have hlt5 : w1.heap.size ≤ w4.heap.size := Nat.le_of_lt HD4.out.lt
  clear hD5 hb5 HD4 HB4
  go_wp2_with fail
  refine (zbits_cut (p + q) (by omega) (by omega) (by omega) HD5.out).mono ?_
  rintro e w6 ⟨rfl, hD6, hb6⟩
  have HD6 : Hid (D F w6 w4.heap.size a' xs ⟨n, true⟩) := hD6
  have HB6 : Hid (Below w1.heap.size w1 w6) := HB5.out.trans (hb6.mono hlt5)
  clear hD6 hb6 HD5 HB5
  go_wp2_with fail
  refine (zn_any HD6.out).mono ?_
  rintro e w7 ⟨rfl, rfl⟩
  go_wp2_with fail
  refine (zerr_any HD6.out).mono ?_
  rintro e w7 ⟨er2, rfl, hne, hgd, rfl⟩
  have hlt6 : w.heap.size ≤ w1.heap.size := HC.out.below.size
  go_wp2_with fail
  all_goals (go_ret; exact ⟨rfl, HC.out.below.trans (HB6.out.mono hlt6)⟩)

theorem walk (F : Interp) (a0 : Option Addr) (len0 cap0 : Nat) (z0 : List Int) (a1 a2 a3 : Int) (w : World) (hF : F.answers w.tape) (w0 : IsRow .u8 w a0 len0 cap0 z0) (_w1 : (Lit.int .i64 a1).wf = true) (_w2 : (Lit.int .i64 a2).wf = true) (_w3 : (Lit.int .i64 a3).wf = true) :
    Calls Tryf.prog 4 #[.slice a0 len0 cap0, .int .i64 a1, .int .i64 a2, .int .i64 a3] w fun e w' => e = .returned (.bool true) ∧ Below w.heap.size w w' := by
  obtain ⟨hm, hl⟩ := w0.lens
  by_cases h : (1048576 : Int) < len0 ∨ a1 < 0 ∨ 8 * (len0 : Int) < a1 ∨ a2 < 0 ∨ a3 < 0 ∨ 64 < a2 ∨ 64 < a3 ∨ 64 < a2 + a3
  · exact early a0 len0 cap0 a1 a2 a3 w hm h
  · have hcl := clone_any w0 (by omega)
    obtain ⟨n, rfl⟩ := Int.eq_ofNat_of_zero_le (a := a1) (by omega)
    obtain ⟨p, rfl⟩ := Int.eq_ofNat_of_zero_le (a := a2) (by omega)
    obtain ⟨q, rfl⟩ := Int.eq_ofNat_of_zero_le (a := a3) (by omega)
    obtain ⟨xs, hxs⟩ : ∃ xs, xs = z0.take len0 := ⟨_, rfl⟩
    rw [← hxs] at hcl hl
    clear hxs w0
    subst hl
    by_cases hA : n + p + q ≤ 8 * xs.length
    · exact caseA F a0 cap0 xs n p q w hF hcl (by omega) (by omega) (by omega) hA
    · by_cases hB : n + p ≤ 8 * xs.length
      · exact caseB F a0 cap0 xs n p q w hF hcl (by omega) (by omega) (by omega) hB (by omega)
      · exact caseC F a0 cap0 xs n p q w hF hcl (by omega) (by omega) (by omega) (by omega)

end Go.Proofs.Qxb6614317aFmt.fnDecoderBitsSplitAtAnyCut
