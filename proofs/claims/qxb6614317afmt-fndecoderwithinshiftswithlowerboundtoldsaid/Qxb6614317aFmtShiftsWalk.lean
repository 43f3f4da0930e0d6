/- The walk of FnDecoderWithinShiftsWithLowerBound. -/
import Derived.Test.Qxb6614317aFmtBitAt
namespace Go.Proofs.Qxb6614317aFmt.fnDecoderWithinShiftsWithLowerBound
open Go.RowKit Go.Extern.Stop Go.Stop Go.Extern

theorem zz_no (a : Option Addr) (len cap : Nat) (n p q : Int) (w : World) (_hm : len ≤ 9223372036854775807) (h : (1048576 : Int) < len) :
    Calls Tryf.prog 17 #[.slice a len cap, .int .i64 n, .int .u64 p, .int .u64 q] w fun e w' => e = .returned (.bool false) ∧ w = w' := by
  go_enter Tryf.func17, Tryf.ntmps17
  go_wp2
  go_ret
  exact ⟨rfl, rfl⟩
theorem zz_yes (a : Option Addr) (len cap : Nat) (n p q : Int) (w : World) (h : (len : Int) ≤ 1048576) :
    Calls Tryf.prog 17 #[.slice a len cap, .int .i64 n, .int .u64 p, .int .u64 q] w fun e w' => e = .returned (.bool true) ∧ w = w' := by
  go_enter Tryf.func17, Tryf.ntmps17
  go_wp2
  go_ret
  exact ⟨rfl, rfl⟩

set_option maxHeartbeats 1000000 in
set_option maxRecDepth 100000 in
/-- The ways that return at once. -/
theorem early (a0 : Option Addr) (len0 cap0 : Nat) (n p q : Int) (w : World) (hm : len0 ≤ 9223372036854775807)
    (h : (1048576 : Int) < len0 ∨ n < 0 ∨ 8 * (len0 : Int) < n ∨ q < p) :
    Calls Tryf.prog 5 #[.slice a0 len0 cap0, .int .i64 n, .int .u64 p, .int .u64 q] w fun e w' => e = .returned (.bool true) ∧ Below w.heap.size w w' := by
  by_cases hbig : (1048576 : Int) < len0
  · clear h
    go_enter Tryf.func5, Tryf.ntmps5
    go_wp2_with (go_at_call 17; refine (zz_no _ _ _ _ _ _ _ hm hbig).mono ?_; rintro e w' ⟨rfl, rfl⟩)
    go_ret
    exact ⟨rfl, Below.refl _ _⟩
  have hle : (len0 : Int) ≤ 1048576 := by omega
  clear hbig
  by_cases h1 : n < 0
  · clear h
    go_enter Tryf.func5, Tryf.ntmps5
    go_wp2_with (go_at_call 17; refine (zz_yes _ _ _ _ _ _ _ hle).mono ?_; rintro e w' ⟨rfl, rfl⟩)
    go_ret
    exact ⟨rfl, Below.refl _ _⟩
  have h1' : 0 ≤ n := by omega
  clear h1
  by_cases h2 : 8 * (len0 : Int) < n
  · clear h
    go_enter Tryf.func5, Tryf.ntmps5
    go_wp2_with (go_at_call 17; refine (zz_yes _ _ _ _ _ _ _ hle).mono ?_; rintro e w' ⟨rfl, rfl⟩)
    go_ret
    exact ⟨rfl, Below.refl _ _⟩
  have h2' : n ≤ 8 * (len0 : Int) := by omega
  clear h2
  have h5 : q < p := by omega
  clear h
  go_enter Tryf.func5, Tryf.ntmps5
  go_wp2_with (go_at_call 17; refine (zz_yes _ _ _ _ _ _ _ hle).mono ?_; rintro e w' ⟨rfl, rfl⟩)
  go_ret
  exact ⟨rfl, Below.refl _ _⟩

/-- What the two readings come to: the four ways of the law. -/
def Ways (xs : List Int) (n lb r v1 v2 m : Nat) (f : Bool) : Prop :=
  (n = 8 * xs.length ∧ true = f ∧ n = m ∧ lb = v1 ∧ 0 = v2) ∨ (n < 8 * xs.length ∧ bitAt xs n = 1 ∧ true = f ∧ n + 1 = m ∧ 0 = v1 ∧ 0 = v2) ∨
  (n < 8 * xs.length ∧ bitAt xs n = 0 ∧ n + 1 ≤ m ∧ lb + v2 = v1 ∧ v2 ≤ r ∧ (f = true → 0 = v2))

theorem ways (xs : List Int) (n lb r : Nat) (h : n ≤ 8 * xs.length) : Ways xs n lb r (witV xs ⟨n, false⟩ lb r) (witV xs ⟨n, false⟩ 0 r) (witS xs ⟨n, false⟩ r).n (witS xs ⟨n, false⟩ r).bad := by
  by_cases h1 : n = 8 * xs.length
  · obtain ⟨e1, e2⟩ := wit_end (lb := lb) (r := r) h1
    obtain ⟨e3, _⟩ := wit_end (lb := 0) (r := r) h1
    rw [e1, e2, e3]
    exact .inl ⟨h1, rfl, rfl, rfl, rfl⟩
  have h2 : n < 8 * xs.length := by omega
  by_cases hb : bitAt xs n = 1
  · obtain ⟨e1, e2⟩ := wit_ext (lb := lb) (r := r) h2 hb
    obtain ⟨e3, _⟩ := wit_ext (lb := 0) (r := r) h2 hb
    rw [e1, e2, e3]
    exact .inr (.inl ⟨h2, hb, rfl, rfl, rfl, rfl⟩)
  · obtain ⟨e1, e2⟩ := wit_in (lb := lb) (r := r) h2 hb
    obtain ⟨e3, _⟩ := wit_in (lb := 0) (r := r) h2 hb
    rw [e1, e2, e3]
    have := bitAt_le xs n
    exact .inr (.inr ⟨h2, by omega, conS_mono xs ⟨n + 1, false⟩ r, by omega, by have := conV_le xs ⟨n + 1, false⟩ r; omega, fun hf => by rw [conV_of_bad hf]⟩)

set_option maxHeartbeats 2000000 in
set_option maxRecDepth 100000 in
theorem core (F : Interp) (a0 : Option Addr) (cap0 : Nat) (xs : List Int) (n lb ub r v1 v2 m : Nat) (f : Bool) (w : World) (hF : F.answers w.tape)
    (hcl : Calls Tryf.prog 10 #[.slice a0 xs.length cap0] w fun e w' => ∃ a', e = .returned (.slice a' xs.length xs.length) ∧ Clones w w' a' xs)
    (hle : (xs.length : Int) ≤ 1048576) (hn : n ≤ 8 * xs.length) (hs : (ub : Int) - lb = r) (hu : Fits64 ub)
    (e1 : witV xs ⟨n, false⟩ lb r = v1) (e2 : witV xs ⟨n, false⟩ 0 r = v2) (e3 : witS xs ⟨n, false⟩ r = ⟨m, f⟩) (hw : Ways xs n lb r v1 v2 m f) :
    Calls Tryf.prog 5 #[.slice a0 xs.length cap0, .int .i64 n, .int .u64 lb, .int .u64 ub] w fun e w' => e = .returned (.bool true) ∧ Below w.heap.size w w' := by
  have HF : Hid (F.answers w.tape) := hF
  have HCL : Hid (Calls Tryf.prog 10 #[.slice a0 xs.length cap0] w fun e w' => ∃ a', e = .returned (.slice a' xs.length xs.length) ∧ Clones w w' a' xs) := hcl
  have E1 : Hid (witV xs ⟨n, false⟩ lb r = v1) := e1
  have E2 : Hid (witV xs ⟨n, false⟩ 0 r = v2) := e2
  have E3 : Hid (witS xs ⟨n, false⟩ r = ⟨m, f⟩) := e3
  have HW : Hid (Ways xs n lb r v1 v2 m f) := hw
  have hlu : (lb : Int) ≤ ub := by omega
  have HS : Hid ((ub : Int) - lb = r) := hs
  clear hF hcl e1 e2 e3 hw hs
  go_enter Tryf.func5, Tryf.ntmps5
  go_wp2_with (go_at_call 17; refine (zz_yes _ _ _ _ _ _ _ hle).mono ?_; rintro e w' ⟨rfl, rfl⟩)
  refine HCL.out.mono ?_
  rintro e w1 ⟨a', rfl, hC⟩
  have HC : Hid (Clones w w1 a' xs) := hC
  have ht1 : Hid (F.answers w1.tape) := by have := HC.out.below.tape; rw [Hid, this]; exact HF.out
  clear hC HCL
  go_wp2_with fail
  refine (new_any (F := F) (n := n) rfl rfl HC.out.data ht1.out (by omega) (by omega) HC.out.bytes).mono ?_
  rintro e w2 ⟨rfl, hD2, hb2⟩
  have HD2 : Hid (D F w2 w1.heap.size a' xs ⟨n, false⟩) := hD2
  have HB2 : Hid (Below w1.heap.size w1 w2) := hb2
  clear hD2 hb2
  go_wp2_with fail
  have C3 := zwithin_any (lb : Int) (ub : Int) lb r rfl HS.out hu.out HD2.out
  rw [E1.out, E3.out] at C3
  refine C3.mono ?_
  clear C3
  rintro e w3 ⟨rfl, hD3, hb3⟩
  have HD3 : Hid (D F w3 w1.heap.size a' xs ⟨m, f⟩) := hD3
  have HB3 : Hid (Below w1.heap.size w1 w3) := HB2.out.trans hb3
  clear hD3 hb3 HB2 HD2
  go_wp2_with fail
  refine (zn_any HD3.out).mono ?_
  rintro e w5 ⟨rfl, rfl⟩
  go_wp2_with fail
  refine (zerr_any HD3.out).mono ?_
  rintro e w5 ⟨er, rfl, hne, hgd, rfl⟩
  go_wp2_with fail
  clear hne hgd
  refine (new_any (F := F) (n := n) rfl rfl (HD3.out.data.mono (Nat.le_of_lt HD3.out.lt)) HD3.out.tape (by omega) (by omega) HC.out.bytes).mono ?_
  rintro e w5 ⟨rfl, hD5, hb5⟩
  have HD5 : Hid (D F w5 w3.heap.size a' xs ⟨n, false⟩) := hD5
  have HB5 : Hid (Below w1.heap.size w1 w5) := HB3.out.trans (hb5.mono (Nat.le_of_lt HD3.out.lt))
  have hlt5 : w1.heap.size ≤ w3.heap.size := Nat.le_of_lt HD3.out.lt
  clear hD5 hb5 HD3 HB3
  go_wp2_with fail
  have hs := HS.out
  rw [hs, u64_wrap_id (r : Int) (by omega) (by have := hu.out; omega)]
  have C6 := zwithin_any (0 : Int) (r : Int) 0 r rfl (by omega) (by have := hu.out; omega) HD5.out
  rw [E2.out, E3.out] at C6
  refine C6.mono ?_
  clear C6 hs
  rintro e w6 ⟨rfl, hD6, hb6⟩
  have HD6 : Hid (D F w6 w3.heap.size a' xs ⟨m, f⟩) := hD6
  have HB6 : Hid (Below w1.heap.size w1 w6) := HB5.out.trans (hb6.mono hlt5)
  clear hD6 hb6 HD5 HB5
  go_wp2_with fail
  refine (zn_any HD6.out).mono ?_
  rintro e w7 ⟨rfl, rfl⟩
  go_wp2_with fail
  refine (zerr_any HD6.out).mono ?_
  rintro e w7 ⟨er2, rfl, hne, hgd, rfl⟩
  have hlt6 : w.heap.size ≤ w1.heap.size := HC.out.below.size
  have hfit : m ≤ 8 * xs.length := HD6.out.fit
  rcases HW.out with ⟨hn1, rfl, rfl, rfl, rfl⟩ | ⟨hn1, hb, rfl, rfl, rfl, rfl⟩ | ⟨hn1, hb, hm1, rfl, hv2, hv⟩
  · have hn2 : ((n : Int) == 8 * (xs.length : Int)) = true := by simp; omega
    clear hn1 HW
    go_wp2_with fail
    all_goals (go_ret; exact ⟨rfl, HC.out.below.trans (HB6.out.mono hlt6)⟩)
  · have HB1 : Hid (bitAt xs n = 1) := hb
    clear hb HW
    go_wp2_with (go_at_call 19; refine (bitat_data n rfl hn1 HD6.out).mono ?_; rintro e w8 ⟨rfl, rfl⟩; rw [HB1.out])
    all_goals (go_ret; exact ⟨rfl, HC.out.below.trans (HB6.out.mono hlt6)⟩)
  · have HB1 : Hid (bitAt xs n = 0) := hb
    have hwr : IntKind.u64.wrap ((lb : Int) + v2) = (lb : Int) + v2 := u64_wrap_id _ (by omega) (by have := hu.out; have := HS.out; omega)
    have hub : (lb : Int) + v2 ≤ ub := by have := HS.out; omega
    clear hb HW
    cases f with
    | true =>
      obtain rfl := hv rfl
      have hwl : IntKind.u64.wrap (lb : Int) = (lb : Int) := u64_wrap_id _ (by omega) (by have := hu.out; omega)
      clear hv hwr
      go_wp2_with (go_at_call 19; refine (bitat_data n rfl hn1 HD6.out).mono ?_; rintro e w8 ⟨rfl, rfl⟩; rw [HB1.out])
      all_goals (go_ret; exact ⟨rfl, HC.out.below.trans (HB6.out.mono hlt6)⟩)
    | false =>
      clear hv
      go_wp2_with (go_at_call 19; refine (bitat_data n rfl hn1 HD6.out).mono ?_; rintro e w8 ⟨rfl, rfl⟩; rw [HB1.out])
      all_goals (go_ret; exact ⟨rfl, HC.out.below.trans (HB6.out.mono hlt6)⟩)

theorem walk (F : Interp) (a0 : Option Addr) (len0 cap0 : Nat) (z0 : List Int) (a1 a2 a3 : Int) (w : World) (hF : F.answers w.tape) (w0 : IsRow .u8 w a0 len0 cap0 z0) (_w1 : (Lit.int .i64 a1).wf = true) (w2 : (Lit.int .u64 a2).wf = true) (w3 : (Lit.int .u64 a3).wf = true) :
    Calls Tryf.prog 5 #[.slice a0 len0 cap0, .int .i64 a1, .int .u64 a2, .int .u64 a3] w fun e w' => e = .returned (.bool true) ∧ Below w.heap.size w w' := by
  obtain ⟨hm, hl⟩ := w0.lens
  have b2 := u64_wf w2
  have b3 := u64_wf w3
  by_cases h : (1048576 : Int) < len0 ∨ a1 < 0 ∨ 8 * (len0 : Int) < a1 ∨ a3 < a2
  · exact early a0 len0 cap0 a1 a2 a3 w hm h
  · have hcl := clone_any w0 (by omega)
    obtain ⟨n, rfl⟩ := Int.eq_ofNat_of_zero_le (a := a1) (by omega)
    obtain ⟨lb, rfl⟩ := Int.eq_ofNat_of_zero_le (a := a2) (by omega)
    obtain ⟨ub, rfl⟩ := Int.eq_ofNat_of_zero_le (a := a3) (by omega)
    obtain ⟨xs, hxs⟩ : ∃ xs, xs = z0.take len0 := ⟨_, rfl⟩
    rw [← hxs] at hcl hl
    clear hxs w0
    subst hl
    exact core F a0 cap0 xs n lb ub (ub - lb) _ _ _ _ w hF hcl (by omega) (by omega) (by omega) ⟨by omega⟩ rfl rfl rfl (ways xs n lb (ub - lb) (by omega))

end Go.Proofs.Qxb6614317aFmt.fnDecoderWithinShiftsWithLowerBound
