/- zzBitAt. -/
import Derived.Test.Qxb6614317aFmtLaws
namespace Go.Proofs.Qxb6614317aFmt
open Go.RowKit Go.Extern.Stop Go.Stop Go.Extern

theorem bitAt_value (x : Int) (m : Nat) (h0 : 0 ≤ x) (h1 : x ≤ 255) : bits .and .u64 (IntKind.u64.wrap (x / 2 ^ m)) 1 = ((x.toNat / 2 ^ m % 2 : Nat) : Int) := by
  obtain ⟨d0, d1⟩ := div_pow_bd x m h0 h1
  rw [u64_wrap_id _ (by omega) (by omega), and_one_u64 _ d0 (by omega)]
  have e : x / 2 ^ m = ((x.toNat / 2 ^ m : Nat) : Int) := by
    obtain ⟨x, rfl⟩ := Int.eq_ofNat_of_zero_le h0
    simp
  rw [e]
  omega

theorem bitat_data {F : Interp} {w : World} {b : Nat} {a : Option Addr} {xs : List Int} {s : St} {N : Int} (n : Nat) (hN : N = n) (h : n < 8 * xs.length) (hD : D F w b a xs s) :
    Calls Tryf.prog 19 #[.slice a xs.length xs.length, .int .i64 N] w fun e w' => e = .returned (.int .u64 (bitAt xs n)) ∧ w = w' := by
  subst hN
  have hs := hD.small
  have hx := byte_range xs hD.bytes (n / 8)
  obtain ⟨g, rfl, hcell⟩ := hD.cellAt (by omega)
  have hc := hcell (n / 8) (by omega)
  have hi : (n : Int) / 8 < (xs.length : Int) := by omega
  have hv := bitAt_value (xs.getD (n / 8) 0) (7 - n % 8) hx.1 hx.2
  have HV : Hid (bits .and .u64 (IntKind.u64.wrap (xs.getD (n / 8) 0 / 2 ^ (7 - n % 8))) 1 = (((xs.getD (n / 8) 0).toNat / 2 ^ (7 - n % 8) % 2 : Nat) : Int)) := hv
  clear hcell hD hv hx
  go_enter Tryf.func19, Tryf.ntmps19
  go_wp2
  go_ret
  exact ⟨ret_int HV.out, rfl⟩

end Go.Proofs.Qxb6614317aFmt
