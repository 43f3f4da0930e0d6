/- The walk of FnDecoderEnumeratedRootAgreesWithWithin. -/
import Derived.Test.Qxb6614317aFmtEnLaws
namespace Go.Proofs.Qxb6614317aFmt.fnDecoderEnumeratedRootAgreesWithWithin
open Go.RowKit Go.Extern.Stop Go.Stop Go.Extern

theorem zz_no (a : Option Addr) (len cap : Nat) (n p : Int) (w : World) (_hm : len ≤ 9223372036854775807) (h : (1048576 : Int) < len) :
    Calls Tryf.prog 21 #[.slice a len cap, .int .i64 n, .int .i64 p] w fun e w' => e = .returned (.bool false) ∧ w = w' := by
  go_enter Tryf.func21, Tryf.ntmps21
  go_wp2
  go_ret
  exact ⟨rfl, rfl⟩
theorem zz_yes (a : Option Addr) (len cap : Nat) (n p : Int) (w : World) (h : (len : Int) ≤ 1048576) :
    Calls Tryf.prog 21 #[.slice a len cap, .int .i64 n, .int .i64 p] w fun e w' => e = .returned (.bool true) ∧ w = w' := by
  go_enter Tryf.func21, Tryf.ntmps21
  go_wp2
  go_ret
  exact ⟨rfl, rfl⟩

set_option maxHeartbeats 1000000 in
set_option maxRecDepth 100000 in
/-- The ways that return at once. -/
theorem early (a0 : Option Addr) (len0 cap0 : Nat) (n p : Int) (w : World) (hm : len0 ≤ 9223372036854775807)
    (h : (1048576 : Int) < len0 ∨ n < 0 ∨ 8 * (len0 : Int) < n ∨ p < 1) :
    Calls Tryf.prog 7 #[.slice a0 len0 cap0, .int .i64 n, .int .i64 p] w fun e w' => e = .returned (.bool true) ∧ Below w.heap.size w w' := by
  by_cases hbig : (1048576 : Int) < len0
  · clear h
    go_enter Tryf.func7, Tryf.ntmps7
    go_wp2_with (go_at_call 21; refine (zz_no _ _ _ _ _ _ hm hbig).mono ?_; rintro e w' ⟨rfl, rfl⟩)
    go_ret
    exact ⟨rfl, Below.refl _ _⟩
  have hle : (len0 : Int) ≤ 1048576 := by omega
  clear hbig
  by_cases h1 : n < 0
  · clear h
    go_enter Tryf.func7, Tryf.ntmps7
    go_wp2_with (go_at_call 21; refine (zz_yes _ _ _ _ _ _ hle).mono ?_; rintro e w' ⟨rfl, rfl⟩)
    go_ret
    exact ⟨rfl, Below.refl _ _⟩
  have h1' : 0 ≤ n := by omega
  clear h1
  by_cases h2 : 8 * (len0 : Int) < n
  · clear h
    go_enter Tryf.func7, Tryf.ntmps7
    go_wp2_with (go_at_call 21; refine (zz_yes _ _ _ _ _ _ hle).mono ?_; rintro e w' ⟨rfl, rfl⟩)
    go_ret
    exact ⟨rfl, Below.refl _ _⟩
  have h2' : n ≤ 8 * (len0 : Int) := by omega
  clear h2
  have h5 : p < 1 := by omega
  clear h
  go_enter Tryf.func7, Tryf.ntmps7
  go_wp2_with (go_at_call 21; refine (zz_yes _ _ _ _ _ _ hle).mono ?_; rintro e w' ⟨rfl, rfl⟩)
  go_ret
  exact ⟨rfl, Below.refl _ _⟩

set_option maxHeartbeats 2000000 in
set_option maxRecDepth 100000 in
theorem core (F : Interp) (a0 : Option Addr) (cap0 : Nat) (xs : List Int) (n root : Nat) (vE : Int) (vW mE mW : Nat) (fE fW : Bool) (w : World) (hF : F.answers w.tape)
    (hcl : Calls Tryf.prog 10 #[.slice a0 xs.length cap0] w fun e w' => ∃ a', e = .returned (.slice a' xs.length xs.length) ∧ Clones w w' a' xs)
    (hle : (xs.length : Int) ≤ 1048576) (hn : n ≤ 8 * xs.length) (hr1 : 1 ≤ (root : Int)) (hx1 : (root : Int) ≤ 9223372036854775807)
    (e1 : enV xs ⟨n, false⟩ root = vE) (e2 : witV xs ⟨n, false⟩ 0 (root - 1) = vW) (e3 : enS xs ⟨n, false⟩ root = ⟨mE, fE⟩) (e4 : witS xs ⟨n, false⟩ (root - 1) = ⟨mW, fW⟩) (hw : RootWays xs n root vE vW mE mW fE fW) :
    Calls Tryf.prog 7 #[.slice a0 xs.length cap0, .int .i64 n, .int .i64 root] w fun e w' => e = .returned (.bool true) ∧ Below w.heap.size w w' := by
  have HF : Hid (F.answers w.tape) := hF
  have HCL : Hid (Calls Tryf.prog 10 #[.slice a0 xs.length cap0] w fun e w' => ∃ a', e = .returned (.slice a' xs.length xs.length) ∧ Clones w w' a' xs) := hcl
  have HW : Hid (RootWays xs n root vE vW mE mW fE fW) := hw
  have CE1 : ∀ (W : World) (bb : Nat) (aa : Option Addr), D F W bb aa xs ⟨n, false⟩ → Calls Tryf.prog 22 #[.pointer (some ⟨bb, 0, none⟩), .int .i64 root] W fun e w' => e = .returned (.int .i64 vE) ∧ D F w' bb aa xs ⟨mE, fE⟩ ∧ Below bb W w' := by
    intro W bb aa hD
    have := zenum_any root (by omega) hx1 hD
    rwa [e1, e3] at this
  have CE2 : ∀ (W : World) (bb : Nat) (aa : Option Addr), D F W bb aa xs ⟨n, false⟩ → Calls Tryf.prog 18 #[.pointer (some ⟨bb, 0, none⟩), .int .u64 0, .int .u64 ((root : Int) - 1)] W fun e w' => e = .returned (.int .u64 vW) ∧ D F w' bb aa xs ⟨mW, fW⟩ ∧ Below bb W w' := by
    intro W bb aa hD
    have := zwithin_any 0 ((root : Int) - 1) 0 (root - 1) rfl (by omega) (by omega) hD
    rwa [e2, e4] at this
  have HE1 := hide CE1
  have HE2 := hide CE2
  clear hF hcl e1 e2 e3 e4 hw CE1 CE2
  go_enter Tryf.func7, Tryf.ntmps7
  go_wp2_with (go_at_call 21; refine (zz_yes _ _ _ _ _ _ hle).mono ?_; rintro e w' ⟨rfl, rfl⟩)
  refine HCL.out.mono ?_
  rintro e w1 ⟨a', rfl, hC⟩
  have HC : Hid (Clones w w1 a' xs) := hC
  have ht1 : Hid (F.answers w1.tape) := by have := HC.out.below.tape; rw [Hid, this]; exact HF.out
  clear hC HCL
  go_wp2_with fail
  refine (new_any (F := F) (n := n) rfl rfl HC.out.data ht1.out (by omega) (by omega) HC.out.bytes).mono ?_
  rintro e w2 ⟨rfl, hD2, hb2⟩
  have HD2 : Hid (D F w2 w1.heap.size a' xs ⟨n, false⟩) := hD2
  have HB2 : Hid (Below w1.heap.size w1 w2) := hb2
  clear hD2 hb2
  go_wp2_with fail
  refine (HE1.out _ _ _ HD2.out).mono ?_
  rintro e w3 ⟨rfl, hD3, hb3⟩
  have HD3 : Hid (D F w3 w1.heap.size a' xs ⟨mE, fE⟩) := hD3
  have HB3 : Hid (Below w1.heap.size w1 w3) := HB2.out.trans hb3
  have hfit1 : mE ≤ 8 * xs.length := hD3.fit
  clear hD3 hb3 HB2 HD2
  go_wp2_with fail
  refine (zn_any HD3.out).mono ?_
  rintro e w5 ⟨rfl, rfl⟩
  go_wp2_with fail
  refine (zerr_any HD3.out).mono ?_
  rintro e w5 ⟨er, rfl, hne, hgd, rfl⟩
  go_wp2_with fail
  clear hne hgd
  refine (new_any (F := F) (n := n) rfl rfl (HD3.out.data.mono (Nat.le_of_lt HD3.out.lt)) HD3.out.tape (by omega) (by omega) HC.out.bytes).mono ?_
  rintro e w5 ⟨rfl, hD5, hb5⟩
  have HD5 : Hid (D F w5 w3.heap.size a' xs ⟨n, false⟩) := hD5
  have HB5 : Hid (Below w1.heap.size w1 w5) := HB3.out.trans (hb5.mono (Nat.le_of_lt HD3.out.lt))
  have hlt5 : w1.heap.size ≤ w3.heap.size := Nat.le_of_lt HD3.out.lt
  clear hD5 hb5 HD3 HB3
  go_wp2_with fail
  refine (HE2.out _ _ _ HD5.out).mono ?_
  rintro e w6 ⟨rfl, hD6, hb6⟩
  have HD6 : Hid (D F w6 w3.heap.size a' xs ⟨mW, fW⟩) := hD6
  have HB6 : Hid (Below w1.heap.size w1 w6) := HB5.out.trans (hb6.mono hlt5)
  have hfit2 : mW ≤ 8 * xs.length := hD6.fit
  clear hD6 hb6 HD5 HB5
  go_wp2_with fail
  refine (zn_any HD6.out).mono ?_
  rintro e w7 ⟨rfl, rfl⟩
  go_wp2_with fail
  refine (zerr_any HD6.out).mono ?_
  rintro e w7 ⟨er2, rfl, hne, hgd, rfl⟩
  have hlt6 : w.heap.size ≤ w1.heap.size := HC.out.below.size
  have fin : Hid (Below w.heap.size w w6) := HC.out.below.trans (HB6.out.mono hlt6)
  clear HE1 HE2
  rcases HW.out with ⟨hn1, rfl, rfl, rfl, rfl, rfl, rfl⟩ | ⟨hn1, hb, rfl, rfl, rfl, h8, hb1, rfl, rfl, rfl⟩ | ⟨hn1, hb, rfl, rfl, rfl, h8, hm⟩ | ⟨hn1, hb, rfl, hv, rfl, rfl⟩
  · have hn2 : ¬ (n : Int) < 8 * (xs.length : Int) := by omega
    clear hn1 HW
    go_wp2_with fail
    all_goals (go_ret; exact ⟨by simp, fin.out⟩)
  · have HB1 : Hid (bitAt xs n = 1) := hb
    have HB2 : Hid (bitAt xs (n + 1) = 0) := hb1
    clear hb hb1 HW
    go_wp2_with fail
    refine (bitat_data n rfl hn1 HD6.out).mono ?_
    rintro e w8 ⟨rfl, rfl⟩
    rw [HB1.out]
    go_wp2_with fail
    refine (bitat_data (n + 1) (by omega) (by omega) HD6.out).mono ?_
    rintro e w8 ⟨rfl, rfl⟩
    rw [HB2.out]
    go_wp2_with fail
    refine (six_data (n + 2) (by omega) (by omega) HD6.out).mono ?_
    rintro e w8 ⟨rfl, rfl⟩
    go_wp2_with fail
    all_goals (go_ret; exact ⟨by simp, fin.out⟩)
  · have HB1 : Hid (bitAt xs n = 1) := hb
    have HM := hide hm
    clear hb HW hm
    rcases h8 with h8 | ⟨h8, hb1⟩
    · go_wp2_with fail
      refine (bitat_data n rfl hn1 HD6.out).mono ?_
      rintro e w8 ⟨rfl, rfl⟩
      rw [HB1.out]
      rcases HM.out with hm | rfl
      · go_wp2_with fail
        all_goals (go_ret; exact ⟨by simp, fin.out⟩)
      · go_wp2_with fail
        all_goals (go_ret; exact ⟨by simp, fin.out⟩)
    · have HB2 : Hid (bitAt xs (n + 1) = 1) := hb1
      clear hb1
      go_wp2_with fail
      refine (bitat_data n rfl hn1 HD6.out).mono ?_
      rintro e w8 ⟨rfl, rfl⟩
      rw [HB1.out]
      go_wp2_with fail
      refine (bitat_data (n + 1) (by omega) (by omega) HD6.out).mono ?_
      rintro e w8 ⟨rfl, rfl⟩
      rw [HB2.out]
      rcases HM.out with hm | rfl
      · go_wp2_with fail
        all_goals (go_ret; exact ⟨by simp, fin.out⟩)
      · go_wp2_with fail
        all_goals (go_ret; exact ⟨by simp, fin.out⟩)
  · have HB1 : Hid (bitAt xs n = 0) := hb
    have hv' : (vW : Int) ≤ (root : Int) - 1 := by omega
    clear hb HW hv
    go_wp2_with fail
    refine (bitat_data n rfl hn1 HD6.out).mono ?_
    rintro e w8 ⟨rfl, rfl⟩
    rw [HB1.out]
    go_wp2_with fail
    all_goals (go_ret; exact ⟨by simp, fin.out⟩)

theorem walk (F : Interp) (a0 : Option Addr) (len0 cap0 : Nat) (z0 : List Int) (a1 a2 : Int) (w : World) (hF : F.answers w.tape) (w0 : IsRow .u8 w a0 len0 cap0 z0) (_w1 : (Lit.int .i64 a1).wf = true) (w2 : (Lit.int .i64 a2).wf = true) :
    Calls Tryf.prog 7 #[.slice a0 len0 cap0, .int .i64 a1, .int .i64 a2] w fun e w' => e = .returned (.bool true) ∧ Below w.heap.size w w' := by
  obtain ⟨hm, hl⟩ := w0.lens
  have b2 := i64_wf w2
  by_cases h : (1048576 : Int) < len0 ∨ a1 < 0 ∨ 8 * (len0 : Int) < a1 ∨ a2 < 1
  · exact early a0 len0 cap0 a1 a2 w hm h
  · have hcl := clone_any w0 (by omega)
    obtain ⟨n, rfl⟩ := Int.eq_ofNat_of_zero_le (a := a1) (by omega)
    obtain ⟨root, rfl⟩ := Int.eq_ofNat_of_zero_le (a := a2) (by omega)
    obtain ⟨xs, hxs⟩ : ∃ xs, xs = z0.take len0 := ⟨_, rfl⟩
    rw [← hxs] at hcl hl
    clear hxs w0
    subst hl
    exact core F a0 cap0 xs n root _ _ _ _ _ _ w hF hcl (by omega) (by omega) (by omega) (by omega) rfl rfl rfl rfl (rootWays xs n root (by omega))

end Go.Proofs.Qxb6614317aFmt.fnDecoderEnumeratedRootAgreesWithWithin
