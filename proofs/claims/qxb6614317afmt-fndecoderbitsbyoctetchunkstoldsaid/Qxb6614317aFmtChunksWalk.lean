/- The walk of FnDecoderBitsByOctetChunks. -/
import Derived.Test.Qxb6614317aFmtChunk
namespace Go.Proofs.Qxb6614317aFmt.fnDecoderBitsByOctetChunks
open Go.RowKit Go.Extern.Stop Go.Stop Go.Extern

theorem zz_no (a : Option Addr) (len cap : Nat) (n p : Int) (w : World) (_hm : len ≤ 9223372036854775807) (h : (1048576 : Int) < len) :
    Calls Tryf.prog 9 #[.slice a len cap, .int .i64 n, .int .i64 p] w fun e w' => e = .returned (.bool false) ∧ w = w' := by
  go_enter Tryf.func9, Tryf.ntmps9
  go_wp2
  go_ret
  exact ⟨rfl, rfl⟩
theorem zz_yes (a : Option Addr) (len cap : Nat) (n p : Int) (w : World) (h : (len : Int) ≤ 1048576) :
    Calls Tryf.prog 9 #[.slice a len cap, .int .i64 n, .int .i64 p] w fun e w' => e = .returned (.bool true) ∧ w = w' := by
  go_enter Tryf.func9, Tryf.ntmps9
  go_wp2
  go_ret
  exact ⟨rfl, rfl⟩

set_option maxHeartbeats 1000000 in
set_option maxRecDepth 100000 in
/-- The ways that return at once. -/
theorem early (a0 : Option Addr) (len0 cap0 : Nat) (n p : Int) (w : World) (hm : len0 ≤ 9223372036854775807)
    (h : (1048576 : Int) < len0 ∨ n < 0 ∨ 8 * (len0 : Int) < n ∨ p < 0 ∨ 64 < p) :
    Calls Tryf.prog 3 #[.slice a0 len0 cap0, .int .i64 n, .int .i64 p] w fun e w' => e = .returned (.bool true) ∧ Below w.heap.size w w' := by
  by_cases hbig : (1048576 : Int) < len0
  · clear h
    go_enter Tryf.func3, Tryf.ntmps3
    go_wp2_with (go_at_call 9; refine (zz_no _ _ _ _ _ _ hm hbig).mono ?_; rintro e w' ⟨rfl, rfl⟩)
    go_ret
    exact ⟨rfl, Below.refl _ _⟩
  have hle : (len0 : Int) ≤ 1048576 := by omega
  clear hbig
  by_cases h1 : n < 0
  · clear h
    go_enter Tryf.func3, Tryf.ntmps3
    go_wp2_with (go_at_call 9; refine (zz_yes _ _ _ _ _ _ hle).mono ?_; rintro e w' ⟨rfl, rfl⟩)
    go_ret
    exact ⟨rfl, Below.refl _ _⟩
  have h1' : 0 ≤ n := by omega
  clear h1
  by_cases h2 : 8 * (len0 : Int) < n
  · clear h
    go_enter Tryf.func3, Tryf.ntmps3
    go_wp2_with (go_at_call 9; refine (zz_yes _ _ _ _ _ _ hle).mono ?_; rintro e w' ⟨rfl, rfl⟩)
    go_ret
    exact ⟨rfl, Below.refl _ _⟩
  have h2' : n ≤ 8 * (len0 : Int) := by omega
  clear h2
  by_cases h3 : p < 0
  · clear h
    go_enter Tryf.func3, Tryf.ntmps3
    go_wp2_with (go_at_call 9; refine (zz_yes _ _ _ _ _ _ hle).mono ?_; rintro e w' ⟨rfl, rfl⟩)
    go_ret
    exact ⟨rfl, Below.refl _ _⟩
  have h3' : 0 ≤ p := by omega
  clear h3
  have h5 : 64 < p := by omega
  clear h
  go_enter Tryf.func3, Tryf.ntmps3
  go_wp2_with (go_at_call 9; refine (zz_yes _ _ _ _ _ _ hle).mono ?_; rintro e w' ⟨rfl, rfl⟩)
  go_ret
  exact ⟨rfl, Below.refl _ _⟩

set_option maxHeartbeats 1000000 in
set_option maxRecDepth 100000 in
theorem caseA (F : Interp) (a0 : Option Addr) (cap0 : Nat) (xs : List Int) (n p : Nat) (w : World) (hF : F.answers w.tape)
    (hcl : Calls Tryf.prog 10 #[.slice a0 xs.length cap0] w fun e w' => ∃ a', e = .returned (.slice a' xs.length xs.length) ∧ Clones w w' a' xs)
    (hle : (xs.length : Int) ≤ 1048576) (hn : n ≤ 8 * xs.length) (hpq : p ≤ 64) (hA : n + p ≤ 8 * xs.length) :
    Calls Tryf.prog 3 #[.slice a0 xs.length cap0, .int .i64 n, .int .i64 p] w fun e w' => e = .returned (.bool true) ∧ Below w.heap.size w w' := by
  have HF : Hid (F.answers w.tape) := hF
  have HCL : Hid (Calls Tryf.prog 10 #[.slice a0 xs.length cap0] w fun e w' => ∃ a', e = .returned (.slice a' xs.length xs.length) ∧ Clones w w' a' xs) := hcl
  clear hF hcl
  go_enter Tryf.func3, Tryf.ntmps3
  go_wp2_with (go_at_call 9; refine (zz_yes _ _ _ _ _ _ hle).mono ?_; rintro e w' ⟨rfl, rfl⟩)
  refine HCL.out.mono ?_
  rintro e w1 ⟨a', rfl, hC⟩
  have HC : Hid (Clones w w1 a' xs) := hC
  have ht1 : Hid (F.answers w1.tape) := by have := HC.out.below.tape; rw [Hid, this]; exact HF.out
  clear hC HCL
  go_wp2_with fail
  refine (new_any (F := F) (n := n) rfl rfl HC.out.data ht1.out (by omega) (by omega) HC.out.bytes).mono ?_
  rintro e w2 ⟨rfl, hD2, hb2⟩
  have HD2 : Hid (D F w2 w1.heap.size a' xs ⟨n, false⟩) := hD2
  have HB2 : Hid (Below w1.heap.size w1 w2) := hb2
  clear hD2 hb2
  go_wp2_with fail
  refine (zbits_go p rfl (by omega) (by omega) HD2.out).mono ?_
  rintro e w3 ⟨rfl, hD3, hb3⟩
  have HD3 : Hid (D F w3 w1.heap.size a' xs ⟨n + p, false⟩) := hD3
  have HB3 : Hid (Below w1.heap.size w1 w3) := HB2.out.trans hb3
  clear hD3 hb3 HB2 HD2
  go_wp2_with fail
  refine (zn_any HD3.out).mono ?_
  rintro e w5 ⟨rfl, rfl⟩
  go_wp2_with fail
  refine (zerr_any HD3.out).mono ?_
  rintro e w5 ⟨er, rfl, hne, hgd, rfl⟩
  have hlt6 : w.heap.size ≤ w1.heap.size := HC.out.below.size
  go_wp2_with (go_at_call 15; refine (chunk_data n p (by omega) hA HD3.out).mono ?_; rintro e w7 ⟨rfl, rfl⟩)
  all_goals (go_ret; exact ⟨by simp, HC.out.below.trans (HB3.out.mono hlt6)⟩)

set_option maxHeartbeats 1000000 in
set_option maxRecDepth 100000 in
theorem caseB (F : Interp) (a0 : Option Addr) (cap0 : Nat) (xs : List Int) (n p : Nat) (w : World) (hF : F.answers w.tape)
    (hcl : Calls Tryf.prog 10 #[.slice a0 xs.length cap0] w fun e w' => ∃ a', e = .returned (.slice a' xs.length xs.length) ∧ Clones w w' a' xs)
    (hle : (xs.length : Int) ≤ 1048576) (hn : n ≤ 8 * xs.length) (hpq : p ≤ 64) (hB : 8 * xs.length < n + p) :
    Calls Tryf.prog 3 #[.slice a0 xs.length cap0, .int .i64 n, .int .i64 p] w fun e w' => e = .returned (.bool true) ∧ Below w.heap.size w w' := by
  have HF : Hid (F.answers w.tape) := hF
  have HCL : Hid (Calls Tryf.prog 10 #[.slice a0 xs.length cap0] w fun e w' => ∃ a', e = .returned (.slice a' xs.length xs.length) ∧ Clones w w' a' xs) := hcl
  clear hF hcl
  go_enter Tryf.func3, Tryf.ntmps3
  go_wp2_with (go_at_call 9; refine (zz_yes _ _ _ _ _ _ hle).mono ?_; rintro e w' ⟨rfl, rfl⟩)
  refine HCL.out.mono ?_
  rintro e w1 ⟨a', rfl, hC⟩
  have HC : Hid (Clones w w1 a' xs) := hC
  have ht1 : Hid (F.answers w1.tape) := by have := HC.out.below.tape; rw [Hid, this]; exact HF.out
  clear hC HCL
  go_wp2_with fail
  refine (new_any (F := F) (n := n) rfl rfl HC.out.data ht1.out (by omega) (by omega) HC.out.bytes).mono ?_
  rintro e w2 ⟨rfl, hD2, hb2⟩
  have HD2 : Hid (D F w2 w1.heap.size a' xs ⟨n, false⟩) := hD2
  have HB2 : Hid (Below w1.heap.size w1 w2) := hb2
  clear hD2 hb2
  go_wp2_with fail
  refine (zbits_cut p rfl (by omega) (by omega) HD2.out).mono ?_
  rintro e w3 ⟨rfl, hD3, hb3⟩
  have HD3 : Hid (D F w3 w1.heap.size a' xs ⟨n, true⟩) := hD3
  have HB3 : Hid (Below w1.heap.size w1 w3) := HB2.out.trans hb3
  clear hD3 hb3 HB2 HD2
  go_wp2_with fail
  refine (zn_any HD3.out).mono ?_
  rintro e w5 ⟨rfl, rfl⟩
  go_wp2_with fail
  refine (zerr_any HD3.out).mono ?_
  rintro e w5 ⟨er, rfl, hne, hgd, rfl⟩
  have hlt6 : w.heap.size ≤ w1.heap.size := HC.out.below.size
  go_wp2_with fail
  all_goals (go_ret; exact ⟨by simp, HC.out.below.trans (HB3.out.mono hlt6)⟩)

theorem walk (F : Interp) (a0 : Option Addr) (len0 cap0 : Nat) (z0 : List Int) (a1 a2 : Int) (w : World) (hF : F.answers w.tape) (w0 : IsRow .u8 w a0 len0 cap0 z0) (_w1 : (Lit.int .i64 a1).wf = true) (_w2 : (Lit.int .i64 a2).wf = true) :
    Calls Tryf.prog 3 #[.slice a0 len0 cap0, .int .i64 a1, .int .i64 a2] w fun e w' => e = .returned (.bool true) ∧ Below w.heap.size w w' := by
  obtain ⟨hm, hl⟩ := w0.lens
  by_cases h : (1048576 : Int) < len0 ∨ a1 < 0 ∨ 8 * (len0 : Int) < a1 ∨ a2 < 0 ∨ 64 < a2
  · exact early a0 len0 cap0 a1 a2 w hm h
  · have hcl := clone_any w0 (by omega)
    obtain ⟨n, rfl⟩ := Int.eq_ofNat_of_zero_le (a := a1) (by omega)
    obtain ⟨p, rfl⟩ := Int.eq_ofNat_of_zero_le (a := a2) (by omega)
    obtain ⟨xs, hxs⟩ : ∃ xs, xs = z0.take len0 := ⟨_, rfl⟩
    rw [← hxs] at hcl hl
    clear hxs w0
    subst hl
    by_cases hA : n + p ≤ 8 * xs.length
    · exact caseA F a0 cap0 xs n p w hF hcl (by omega) (by omega) (by omega) hA
    · exact caseB F a0 cap0 xs n p w hF hcl (by omega) (by omega) (by omega) (by omega)

end Go.Proofs.Qxb6614317aFmt.fnDecoderBitsByOctetChunks
