/- The walk of FnDecoderBitsSplitAtAnyCut. -/
import Derived.Test.Qxb6614317aFmtZz
namespace Go.Proofs.Qxb6614317aFmt.fnDecoderBitsSplitAtAnyCut
open Go.RowKit Go.Extern.Stop Go.Stop Go.Extern

theorem zz_no (a : Option Addr) (len cap : Nat) (n p q : Int) (w : World) (_hm : len ≤ 9223372036854775807) (h : (1048576 : Int) < len) :
    Calls Tryf.prog 16 #[.slice a len cap, .int .i64 n, .int .i64 p, .int .i64 q] w fun e w' => e = .returned (.bool false) ∧ w = w' := by
  go_enter Tryf.func16, Tryf.ntmps16
  go_wp2
  go_ret
  exact ⟨rfl, rfl⟩
theorem zz_yes (a : Option Addr) (len cap : Nat) (n p q : Int) (w : World) (h : (len : Int) ≤ 1048576) :
    Calls Tryf.prog 16 #[.slice a len cap, .int .i64 n, .int .i64 p, .int .i64 q] w fun e w' => e = .returned (.bool true) ∧ w = w' := by
  go_enter Tryf.func16, Tryf.ntmps16
  go_wp2
  go_ret
  exact ⟨rfl, rfl⟩

set_option maxHeartbeats 1000000 in
set_option maxRecDepth 100000 in
/-- The ways that return at once. -/
theorem early (a0 : Option Addr) (len0 cap0 : Nat) (n p q : Int) (w : World) (hm : len0 ≤ 9223372036854775807)
    (h : (1048576 : Int) < len0 ∨ n < 0 ∨ 8 * (len0 : Int) < n ∨ p < 0 ∨ q < 0 ∨ 64 < p ∨ 64 < q ∨ 64 < p + q) :
    Calls Tryf.prog 4 #[.slice a0 len0 cap0, .int .i64 n, .int .i64 p, .int .i64 q] w fun e w' => e = .returned (.bool true) ∧ Below w.heap.size w w' := by
  by_cases hbig : (1048576 : Int) < len0
  · clear h
    go_enter Tryf.func4, Tryf.ntmps4
    go_wp2_with (go_at_call 16; refine (zz_no _ _ _ _ _ _ _ hm hbig).mono ?_; rintro e w' ⟨rfl, rfl⟩)
    go_ret
    exact ⟨rfl, Below.refl _ _⟩
  have hle : (len0 : Int) ≤ 1048576 := by omega
  clear hbig
  by_cases h1 : n < 0
  · clear h
    go_enter Tryf.func4, Tryf.ntmps4
    go_wp2_with (go_at_call 16; refine (zz_yes _ _ _ _ _ _ _ hle).mono ?_; rintro e w' ⟨rfl, rfl⟩)
    go_ret
    exact ⟨rfl, Below.refl _ _⟩
  have h1' : 0 ≤ n := by omega
  clear h1
  by_cases h2 : 8 * (len0 : Int) < n
  · clear h
    go_enter Tryf.func4, Tryf.ntmps4
    go_wp2_with (go_at_call 16; refine (zz_yes _ _ _ _ _ _ _ hle).mono ?_; rintro e w' ⟨rfl, rfl⟩)
    go_ret
    exact ⟨rfl, Below.refl _ _⟩
  have h2' : n ≤ 8 * (len0 : Int) := by omega
  clear h2
  by_cases h3 : p < 0
  · clear h
    go_enter Tryf.func4, Tryf.ntmps4
    go_wp2_with (go_at_call 16; refine (zz_yes _ _ _ _ _ _ _ hle).mono ?_; rintro e w' ⟨rfl, rfl⟩)
    go_ret
    exact ⟨rfl, Below.refl _ _⟩
  have h3' : 0 ≤ p := by omega
  clear h3
  by_cases h4 : q < 0
  · clear h
    go_enter Tryf.func4, Tryf.ntmps4
    go_wp2_with (go_at_call 16; refine (zz_yes _ _ _ _ _ _ _ hle).mono ?_; rintro e w' ⟨rfl, rfl⟩)
    go_ret
    exact ⟨rfl, Below.refl _ _⟩
  have h4' : 0 ≤ q := by omega
  clear h4
  by_cases h5 : 64 < p
  · clear h
    go_enter Tryf.func4, Tryf.ntmps4
    go_wp2_with (go_at_call 16; refine (zz_yes _ _ _ _ _ _ _ hle).mono ?_; rintro e w' ⟨rfl, rfl⟩)
    go_ret
    exact ⟨rfl, Below.refl _ _⟩
  have h5' : p ≤ 64 := by omega
  clear h5
  by_cases h6 : 64 < q
  · clear h
    go_enter Tryf.func4, Tryf.ntmps4
    go_wp2_with (go_at_call 16; refine (zz_yes _ _ _ _ _ _ _ hle).mono ?_; rintro e w' ⟨rfl, rfl⟩)
    go_ret
    exact ⟨rfl, Below.refl _ _⟩
  have h6' : q ≤ 64 := by omega
  clear h6
  have h7 : 64 < p + q := by omega
  clear h
  go_enter Tryf.func4, Tryf.ntmps4
  go_wp2_with (go_at_call 16; refine (zz_yes _ _ _ _ _ _ _ hle).mono ?_; rintro e w' ⟨rfl, rfl⟩)
  go_ret
  exact ⟨rfl, Below.refl _ _⟩

end Go.Proofs.Qxb6614317aFmt.fnDecoderBitsSplitAtAnyCut
