/- enumerated; zzSixBits; zzInRoot. -/
import Derived.Test.Qxb6614317aFmtNorm
import Derived.Test.Qxb6614317aFmtBitAt
namespace Go.Proofs.Qxb6614317aFmt
open Go.RowKit Go.Extern.Stop Go.Stop Go.Extern

/-- enumerated: the answer, and the state behind it. -/
def enV (xs : List Int) (s : St) (root : Nat) : Int := if boolV xs s = true then wrap64 ((root : Int) + wrap64 (nsV xs (bitsS xs s 1))) else (conV xs (bitsS xs s 1) (root - 1) : Int)
def enS (xs : List Int) (s : St) (root : Nat) : St := if boolV xs s = true then nsS xs (bitsS xs s 1) else conS xs (bitsS xs s 1) (root - 1)

theorem enum_any {F : Interp} {w : World} {b : Nat} {a : Option Addr} {xs : List Int} {s : St} (root : Nat) (h1 : 1 ≤ root) (h2 : (root : Int) ≤ 9223372036854775807) (hD : D F w b a xs s) :
    Calls Tryf.prog 28 #[.pointer (some ⟨b, 0, none⟩), .int .i64 root] w fun e w' => e = .returned (.int .i64 (enV xs s root)) ∧ D F w' b a xs (enS xs s root) ∧ Below b w w' := by
  have H : Hid (D F w b a xs s) := hD
  clear hD
  unfold enV enS
  cases hv : boolV xs s with
  | true =>
    rw [if_pos rfl, if_pos rfl]
    clear h1 h2
    go_enter Tryf.func28, Tryf.ntmps28
    go_wp2_with fail
    refine (bool_any H.out).mono ?_
    rintro e w1 ⟨rfl, hD1, hb1⟩
    have HD1 : Hid (D F w1 b a xs (bitsS xs s 1)) := hD1
    have HB1 : Hid (Below b w w1) := hb1
    clear hD1 hb1
    go_wp2_with fail
    refine (norm_any HD1.out).mono ?_
    rintro e w2 ⟨rfl, hD2, hb2⟩
    have HD2 : Hid (D F w2 b a xs (nsS xs (bitsS xs s 1))) := hD2
    have HB2 : Hid (Below b w w2) := HB1.out.trans hb2
    clear hD2 hb2
    go_wp2_with fail
    go_ret
    exact ⟨rfl, HD2.out, HB2.out⟩
  | false =>
    have e0 : ¬ (false = true) := by simp
    rw [if_neg e0, if_neg e0]
    have hcv := conV_le xs (bitsS xs s 1) (root - 1)
    obtain ⟨c, hc⟩ : ∃ c, c = conV xs (bitsS xs s 1) (root - 1) := ⟨_, rfl⟩
    rw [← hc] at hcv ⊢
    have EC : Hid (c = conV xs (bitsS xs s 1) (root - 1)) := hc
    have hcv' : (c : Int) ≤ (root : Int) - 1 := by omega
    clear hc hcv e0
    go_enter Tryf.func28, Tryf.ntmps28
    go_wp2_with fail
    refine (bool_any H.out).mono ?_
    rintro e w1 ⟨rfl, hD1, hb1⟩
    have HD1 : Hid (D F w1 b a xs (bitsS xs s 1)) := hD1
    have HB1 : Hid (Below b w w1) := hb1
    clear hD1 hb1
    go_wp2_with fail
    have C2 := con_any 0 ((root : Int) - 1) (root - 1) (by omega) (by omega) (by omega) HD1.out
    rw [← EC.out, Int.zero_add] at C2
    refine C2.mono ?_
    clear C2
    rintro e w2 ⟨rfl, hD2, hb2⟩
    have HD2 : Hid (D F w2 b a xs (conS xs (bitsS xs s 1) (root - 1))) := hD2
    have HB2 : Hid (Below b w w2) := HB1.out.trans hb2
    clear hD2 hb2
    go_wp2_with fail
    go_ret
    exact ⟨rfl, HD2.out, HB2.out⟩

theorem zenum_any {F : Interp} {w : World} {b : Nat} {a : Option Addr} {xs : List Int} {s : St} (root : Nat) (h1 : 1 ≤ root) (h2 : (root : Int) ≤ 9223372036854775807) (hD : D F w b a xs s) :
    Calls Tryf.prog 22 #[.pointer (some ⟨b, 0, none⟩), .int .i64 root] w fun e w' => e = .returned (.int .i64 (enV xs s root)) ∧ D F w' b a xs (enS xs s root) ∧ Below b w w' := by
  have H : Hid (D F w b a xs s) := hD
  clear hD
  go_enter Tryf.func22, Tryf.ntmps22
  go_wp2_with (go_at_call 28; refine (enum_any root h1 h2 H.out).mono ?_; rintro e w1 ⟨rfl, hD1, hb1⟩)
  go_ret
  exact ⟨rfl, hD1, hb1⟩

/-- zzSixBits at a decoder's data. -/
theorem six_data {F : Interp} {w : World} {b : Nat} {a : Option Addr} {xs : List Int} {s : St} {N : Int} (n : Nat) (hN : N = n) (h : n + 6 ≤ 8 * xs.length) (hD : D F w b a xs s) :
    Calls Tryf.prog 23 #[.slice a xs.length xs.length, .int .i64 N] w fun e w' => e = .returned (.int .i64 (rd xs n 6)) ∧ w = w' := by
  subst hN
  have hs := hD.small
  have H : Hid (D F w b a xs s) := hD
  clear hD
  go_enter Tryf.func23, Tryf.ntmps23
  go_wp2
  go_loop [5, 6] (fun v i => ∃ j : Nat, j ≤ 6 ∧ i = .int .i64 j ∧ v = .int .i64 (rd xs n j)) (fun _ i => 6 - (intOf i).toNat)
  case atStart => exact ⟨0, by omega, rfl, rfl⟩
  case round =>
    obtain ⟨j, hj, rfl, rfl⟩ := hrel
    by_cases hlt : j < 6
    · have hr : rd xs n j < 64 := Nat.lt_of_lt_of_le (rd_lt xs n j) (by have : 2 ^ j ≤ 2 ^ 6 := Nat.pow_le_pow_right (by decide) hj; omega)
      have hb := bitAt_le xs (n + j)
      go_wp2_with (go_at_call 19; refine (bitat_data (n + j) (by omega) (by omega) H.out).mono ?_; rintro e w1 ⟨rfl, rfl⟩)
      go_round
      case rel => exact ⟨j + 1, by omega, by go_num, by rw [rd]; go_num⟩
      case measure => simp [intOf]; omega
    · go_wp2
      go_ret
      have e : j = 6 := by omega
      subst e
      exact ⟨rfl, rfl⟩

/-- zzInRoot where it holds. -/
theorem inRoot_any (c root : Nat) (f : Bool) (h1 : 1 ≤ root) (h2 : (root : Int) ≤ 9223372036854775807) (hc : (c : Int) ≤ (root : Int) - 1) (hf : f = true → c = 0) (w : World) :
    Calls Tryf.prog 25 #[.int .i64 c, .bool f, .int .i64 root] w fun e w' => e = .returned (.bool true) ∧ w = w' := by
  cases f with
  | true =>
    obtain rfl := hf rfl
    clear hf
    go_enter Tryf.func25, Tryf.ntmps25
    go_wp2
    go_ret
    exact ⟨rfl, rfl⟩
  | false =>
    clear hf
    go_enter Tryf.func25, Tryf.ntmps25
    go_wp2
    go_ret
    exact ⟨rfl, rfl⟩

end Go.Proofs.Qxb6614317aFmt
