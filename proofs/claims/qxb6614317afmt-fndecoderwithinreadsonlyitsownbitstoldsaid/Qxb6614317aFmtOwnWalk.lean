/- The walk of FnDecoderWithinReadsOnlyItsOwnBits. -/
import Derived.Test.Qxb6614317aFmtBitAt
import Derived.Test.Qxb6614317aFmtShift
import Derived.Test.Qxb6614317aFmtAppend
namespace Go.Proofs.Qxb6614317aFmt.fnDecoderWithinReadsOnlyItsOwnBits
open Go.RowKit Go.Extern.Stop Go.Stop Go.Extern

theorem zz_no (a0 a1 a2 : Option Addr) (l0 c0 l1 c1 l2 c2 : Nat) (n p q : Int) (w : World) (_h0 : l0 ≤ 9223372036854775807) (_h1 : l1 ≤ 9223372036854775807) (_h2 : l2 ≤ 9223372036854775807) (h : (1048576 : Int) < (l0 : Int) + l1 + l2) :
    Calls Tryf.prog 20 #[.slice a0 l0 c0, .slice a1 l1 c1, .slice a2 l2 c2, .int .i64 n, .int .u64 p, .int .u64 q] w fun e w' => e = .returned (.bool false) ∧ w = w' := by
  go_enter Tryf.func20, Tryf.ntmps20
  go_wp2
  all_goals (go_ret; exact ⟨rfl, rfl⟩)
theorem zz_yes (a0 a1 a2 : Option Addr) (l0 c0 l1 c1 l2 c2 : Nat) (n p q : Int) (w : World) (h : (l0 : Int) + l1 + l2 ≤ 1048576) :
    Calls Tryf.prog 20 #[.slice a0 l0 c0, .slice a1 l1 c1, .slice a2 l2 c2, .int .i64 n, .int .u64 p, .int .u64 q] w fun e w' => e = .returned (.bool true) ∧ w = w' := by
  go_enter Tryf.func20, Tryf.ntmps20
  go_wp2
  go_ret
  exact ⟨rfl, rfl⟩

set_option maxHeartbeats 1000000 in
set_option maxRecDepth 100000 in
/-- The ways that return at once. -/
theorem early (a0 a1 a2 : Option Addr) (l0 c0 l1 c1 l2 c2 : Nat) (n p q : Int) (w : World) (h0 : l0 ≤ 9223372036854775807) (h1 : l1 ≤ 9223372036854775807) (h2 : l2 ≤ 9223372036854775807)
    (h : (1048576 : Int) < (l0 : Int) + l1 + l2 ∨ n < 0 ∨ 8 * (l1 : Int) < n ∨ q < p) :
    Calls Tryf.prog 6 #[.slice a0 l0 c0, .slice a1 l1 c1, .slice a2 l2 c2, .int .i64 n, .int .u64 p, .int .u64 q] w fun e w' => e = .returned (.bool true) ∧ Below w.heap.size w w' := by
  by_cases hbig : (1048576 : Int) < (l0 : Int) + l1 + l2
  · clear h
    go_enter Tryf.func6, Tryf.ntmps6
    go_wp2_with (go_at_call 20; refine (zz_no _ _ _ _ _ _ _ _ _ _ _ _ _ h0 h1 h2 hbig).mono ?_; rintro e w' ⟨rfl, rfl⟩)
    go_ret
    exact ⟨rfl, Below.refl _ _⟩
  have hle : (l0 : Int) + l1 + l2 ≤ 1048576 := by omega
  clear hbig h0 h1 h2
  by_cases h1 : n < 0
  · clear h
    go_enter Tryf.func6, Tryf.ntmps6
    go_wp2_with (go_at_call 20; refine (zz_yes _ _ _ _ _ _ _ _ _ _ _ _ _ hle).mono ?_; rintro e w' ⟨rfl, rfl⟩)
    go_ret
    exact ⟨rfl, Below.refl _ _⟩
  have h1' : 0 ≤ n := by omega
  clear h1
  by_cases h2 : 8 * (l1 : Int) < n
  · clear h
    go_enter Tryf.func6, Tryf.ntmps6
    go_wp2_with (go_at_call 20; refine (zz_yes _ _ _ _ _ _ _ _ _ _ _ _ _ hle).mono ?_; rintro e w' ⟨rfl, rfl⟩)
    go_ret
    exact ⟨rfl, Below.refl _ _⟩
  have h2' : n ≤ 8 * (l1 : Int) := by omega
  clear h2
  have h5 : q < p := by omega
  clear h
  go_enter Tryf.func6, Tryf.ntmps6
  go_wp2_with (go_at_call 20; refine (zz_yes _ _ _ _ _ _ _ _ _ _ _ _ _ hle).mono ?_; rintro e w' ⟨rfl, rfl⟩)
  go_ret
  exact ⟨rfl, Below.refl _ _⟩

set_option maxHeartbeats 2000000 in
set_option maxRecDepth 100000 in
theorem core (F : Interp) (aP aX aT : Option Addr) (capP capX capT : Nat) (pre xs tl : List Int) (n lb ub r v m vB mB : Nat) (f fB : Bool) (w : World) (hF : F.answers w.tape)
    (hcl : Calls Tryf.prog 10 #[.slice aX xs.length capX] w fun e w' => ∃ a', e = .returned (.slice a' xs.length xs.length) ∧ Clones w w' a' xs)
    (hP : ∀ w' : World, (∀ p v, w.cell? p = some v → w'.cell? p = some v) → Src Tryf.prog 1 22 (.slice aP pre.length capP) pre.length (bc pre) w')
    (hT : ∀ w' : World, (∀ p v, w.cell? p = some v → w'.cell? p = some v) → Src Tryf.prog 1 22 (.slice aT tl.length capT) tl.length (bc tl) w')
    (hbP : ∀ x ∈ pre, 0 ≤ x ∧ x ≤ 255) (hbT : ∀ x ∈ tl, 0 ≤ x ∧ x ≤ 255)
    (hle : (pre.length : Int) + xs.length + tl.length ≤ 1048576) (hn : n ≤ 8 * xs.length) (hs : (ub : Int) - lb = r) (hu : Fits64 ub)
    (e1 : witV xs ⟨n, false⟩ lb r = v) (e2 : witS xs ⟨n, false⟩ r = ⟨m, f⟩) (e3 : witV (pre ++ xs ++ tl) ⟨8 * pre.length + n, false⟩ lb r = vB) (e4 : witS (pre ++ xs ++ tl) ⟨8 * pre.length + n, false⟩ r = ⟨mB, fB⟩)
    (hw : OwnWays pre xs n lb r v m f vB mB fB) :
    Calls Tryf.prog 6 #[.slice aP pre.length capP, .slice aX xs.length capX, .slice aT tl.length capT, .int .i64 n, .int .u64 lb, .int .u64 ub] w fun e w' => e = .returned (.bool true) ∧ Below w.heap.size w w' := by
  have HF : Hid (F.answers w.tape) := hF
  have HCL : Hid (Calls Tryf.prog 10 #[.slice aX xs.length capX] w fun e w' => ∃ a', e = .returned (.slice a' xs.length xs.length) ∧ Clones w w' a' xs) := hcl
  have HP : Hid (∀ w' : World, (∀ p v, w.cell? p = some v → w'.cell? p = some v) → Src Tryf.prog 1 22 (.slice aP pre.length capP) pre.length (bc pre) w') := hP
  have HT : Hid (∀ w' : World, (∀ p v, w.cell? p = some v → w'.cell? p = some v) → Src Tryf.prog 1 22 (.slice aT tl.length capT) tl.length (bc tl) w') := hT
  have HBY : Hid ((∀ x ∈ pre, 0 ≤ x ∧ x ≤ 255) ∧ (∀ x ∈ tl, 0 ≤ x ∧ x ≤ 255)) := ⟨hbP, hbT⟩
  have E1 : Hid (witV xs ⟨n, false⟩ lb r = v) := e1
  have E2 : Hid (witS xs ⟨n, false⟩ r = ⟨m, f⟩) := e2
  have E3 : Hid (witV (pre ++ xs ++ tl) ⟨8 * pre.length + n, false⟩ lb r = vB) := e3
  have E4 : Hid (witS (pre ++ xs ++ tl) ⟨8 * pre.length + n, false⟩ r = ⟨mB, fB⟩) := e4
  have HW : Hid (OwnWays pre xs n lb r v m f vB mB fB) := hw
  have HS : Hid ((ub : Int) - lb = r) := hs
  have hlu : (lb : Int) ≤ ub := by omega
  clear hF hcl hP hT hbP hbT e1 e2 e3 e4 hw hs
  go_enter Tryf.func6, Tryf.ntmps6
  go_wp2_with (go_at_call 20; refine (zz_yes _ _ _ _ _ _ _ _ _ _ _ _ _ hle).mono ?_; rintro e w' ⟨rfl, rfl⟩)
  refine HCL.out.mono ?_
  rintro e w1 ⟨a', rfl, hC⟩
  have HC : Hid (Clones w w1 a' xs) := hC
  have ht1 : Hid (F.answers w1.tape) := by have := HC.out.below.tape; rw [Hid, this]; exact HF.out
  obtain ⟨M, c1, c2, c3, hmk, hA1, hA2, hA3, HG, HB⟩ := whole_runs HP.out HT.out hC (by omega)
  obtain ⟨w4, hw4⟩ : ∃ w4, w4 = (((w1.alloc (.cells M 5)).setRow w1.heap.size c1).setRow w1.heap.size c2).setRow w1.heap.size c3 := ⟨_, rfl⟩
  rw [← hw4] at HG HB hA3
  have K1 : Hid _ := hA1
  have K2 : Hid _ := hA2
  have K3 : Hid _ := hA3
  clear hA1 hA2 hA3 hC HCL hw4 HP HT
  go_wp2_with (first
    | (at_builtin; refine wpList_append_run rfl (.tmp 77) (.tmp 78) rfl _ _ _ K1.out rfl rfl ?_)
    | (at_builtin; refine wpList_append_run rfl (.tmp 80) (.tmp 81) rfl _ _ _ K2.out rfl rfl ?_)
    | (at_builtin; refine wpList_append_run rfl (.tmp 83) (.tmp 84) rfl _ _ _ K3.out rfl rfl ?_))
  clear K1 K2 K3 hmk
  have hg4 : w1.heap.size < w4.heap.size := lt_of_heap HG.out
  have ht4 : Hid (F.answers w4.tape) := by have := HB.out.tape; rw [Hid, this]; exact ht1.out
  have hwl : Hid (pre.length + xs.length + tl.length = (pre ++ xs ++ tl).length) := by show _ = _; rw [List.length_append, List.length_append]
  have hbw : Hid (∀ x ∈ pre ++ xs ++ tl, 0 ≤ x ∧ x ≤ 255) := by
    intro x hx
    rcases List.mem_append.1 hx with h | h
    · rcases List.mem_append.1 h with h | h
      · exact HBY.out.1 x h
      · exact HC.out.bytes x h
    · exact HBY.out.2 x h
  refine (new_any (F := F) (n := n) rfl rfl ((HC.out.data.below HB.out (Nat.le_refl _)).mono HB.out.size) ht4.out (by omega) (by omega) HC.out.bytes).mono ?_
  rintro e w5 ⟨rfl, hD5, hb5⟩
  have HD5 : Hid (D F w5 w4.heap.size a' xs ⟨n, false⟩) := hD5
  have HB5 : Hid (Below w4.heap.size w4 w5) := hb5
  clear hD5 hb5
  go_wp2_with fail
  have C6 := zwithin_any (lb : Int) (ub : Int) lb r rfl HS.out hu.out HD5.out
  rw [E1.out, E2.out] at C6
  refine C6.mono ?_
  clear C6
  rintro e w6 ⟨rfl, hD6, hb6⟩
  have HD6 : Hid (D F w6 w4.heap.size a' xs ⟨m, f⟩) := hD6
  have HB6 : Hid (Below w4.heap.size w4 w6) := HB5.out.trans hb6
  clear hD6 hb6 HB5 HD5
  go_wp2_with fail
  refine (zn_any HD6.out).mono ?_
  rintro e w7 ⟨rfl, rfl⟩
  go_wp2_with fail
  refine (zerr_any HD6.out).mono ?_
  rintro e w7 ⟨er, rfl, hne, hgd, rfl⟩
  go_wp2_with fail
  clear hne hgd
  have hdB : Hid (Data w6 w6.heap.size (some ⟨w1.heap.size, 0, none⟩) (pre ++ xs ++ tl)) :=
    .inr ⟨w1.heap.size, Nat.lt_of_lt_of_le hg4 HB6.out.size, rfl, by rw [HB6.out.block _ hg4]; exact HG.out⟩
  refine (new_any (F := F) (n := 8 * pre.length + n) (by omega) hwl.out hdB.out HD6.out.tape (by have := hwl.out; omega) (by have := hwl.out; omega) hbw.out).mono ?_
  rintro e w8 ⟨rfl, hD8, hb8⟩
  have HD8 : Hid (D F w8 w6.heap.size (some ⟨w1.heap.size, 0, none⟩) (pre ++ xs ++ tl) ⟨8 * pre.length + n, false⟩) := hD8
  have hlt8 : w4.heap.size ≤ w6.heap.size := HB6.out.size
  have hlt68 : w4.heap.size < w6.heap.size := HD6.out.lt
  have HB8 : Hid (Below w4.heap.size w4 w8) := HB6.out.trans (hb8.mono hlt8)
  have HA8 : Hid (D F w8 w4.heap.size a' xs ⟨m, f⟩) := HD6.out.below hb8 HD6.out.lt
  clear hD8 hb8 HB6 HD6 hdB
  go_wp2_with fail
  have C9 := zwithin_any (lb : Int) (ub : Int) lb r rfl HS.out hu.out HD8.out
  rw [E3.out, E4.out] at C9
  refine C9.mono ?_
  clear C9
  rintro e w9 ⟨rfl, hD9, hb9⟩
  have HD9 : Hid (D F w9 w6.heap.size (some ⟨w1.heap.size, 0, none⟩) (pre ++ xs ++ tl) ⟨mB, fB⟩) := hD9
  have HB9 : Hid (Below w4.heap.size w4 w9) := HB8.out.trans (hb9.mono hlt8)
  have HA9 : Hid (D F w9 w4.heap.size a' xs ⟨m, f⟩) := HA8.out.below hb9 hlt68
  clear hD9 hb9 HB8 HD8 HA8
  go_wp2_with fail
  refine (zn_any HD9.out).mono ?_
  rintro e w10 ⟨rfl, rfl⟩
  go_wp2_with fail
  refine (zerr_any HD9.out).mono ?_
  rintro e w10 ⟨er2, rfl, hne, hgd, rfl⟩
  have hlt1 : w.heap.size ≤ w1.heap.size := HC.out.below.size
  have fin : Hid (Below w.heap.size w w9) := HC.out.below.trans ((HB.out.trans (HB9.out.mono (Nat.le_of_lt hg4))).mono hlt1)
  have hfit : m ≤ 8 * xs.length := HA9.out.fit
  have hmB : mB ≤ 8 * (pre ++ xs ++ tl).length := HD9.out.fit
  rw [← hwl.out] at hmB
  rcases HW.out with ⟨hn1, hb, rfl, rfl, rfl, rfl, rfl, rfl⟩ | ⟨hn1, rfl, rfl⟩ | ⟨hn1, hb, rfl, rfl⟩ | ⟨hn1, hb, rfl, hm1, ⟨c, rfl, hc⟩, rfl, rfl, rfl⟩
  · have HB1 : Hid (bitAt xs n = 1) := hb
    clear hb HW
    go_wp2_with (go_at_call 19; refine (bitat_data n rfl hn1 HA9.out).mono ?_; rintro e w11 ⟨rfl, rfl⟩; rw [HB1.out])
    all_goals (go_ret; exact ⟨rfl, fin.out⟩)
  · have hn2 : ¬ (n : Int) < 8 * (xs.length : Int) := by omega
    clear hn1 HW
    go_wp2_with fail
    all_goals (go_ret; exact ⟨rfl, fin.out⟩)
  · have HB1 : Hid (bitAt xs n = 0) := hb
    clear hb HW
    go_wp2_with (go_at_call 19; refine (bitat_data n rfl hn1 HA9.out).mono ?_; rintro e w11 ⟨rfl, rfl⟩; rw [HB1.out])
    all_goals (go_ret; exact ⟨rfl, fin.out⟩)
  · have HB1 : Hid (bitAt xs n = 0) := hb
    have hub : (lb : Int) + c ≤ ub := by have := HS.out; omega
    clear hb HW
    go_wp2_with (go_at_call 19; refine (bitat_data n rfl hn1 HA9.out).mono ?_; rintro e w11 ⟨rfl, rfl⟩; rw [HB1.out])
    all_goals (go_ret; exact ⟨rfl, fin.out⟩)

theorem walk (F : Interp) (a0 : Option Addr) (len0 cap0 : Nat) (z0 : List Int) (a1 : Option Addr) (len1 cap1 : Nat) (z1 : List Int) (a2 : Option Addr) (len2 cap2 : Nat) (z2 : List Int) (a3 a4 a5 : Int) (w : World) (hF : F.answers w.tape)
    (w0 : IsRow .u8 w a0 len0 cap0 z0) (w1 : IsRow .u8 w a1 len1 cap1 z1) (w2 : IsRow .u8 w a2 len2 cap2 z2) (_w3 : (Lit.int .i64 a3).wf = true) (w4 : (Lit.int .u64 a4).wf = true) (w5 : (Lit.int .u64 a5).wf = true) :
    Calls Tryf.prog 6 #[.slice a0 len0 cap0, .slice a1 len1 cap1, .slice a2 len2 cap2, .int .i64 a3, .int .u64 a4, .int .u64 a5] w fun e w' => e = .returned (.bool true) ∧ Below w.heap.size w w' := by
  obtain ⟨hm0, hl0⟩ := w0.lens
  obtain ⟨hm1, hl1⟩ := w1.lens
  obtain ⟨hm2, hl2⟩ := w2.lens
  have b4 := u64_wf w4
  have b5 := u64_wf w5
  by_cases h : (1048576 : Int) < (len0 : Int) + len1 + len2 ∨ a3 < 0 ∨ 8 * (len1 : Int) < a3 ∨ a5 < a4
  · exact early a0 a1 a2 len0 cap0 len1 cap1 len2 cap2 a3 a4 a5 w hm0 hm1 hm2 h
  · have hcl := clone_any w1 (by omega)
    have hP := w0.src
    have hT := w2.src
    have hbP := w0.bytes
    have hbT := w2.bytes
    obtain ⟨n, rfl⟩ := Int.eq_ofNat_of_zero_le (a := a3) (by omega)
    obtain ⟨lb, rfl⟩ := Int.eq_ofNat_of_zero_le (a := a4) (by omega)
    obtain ⟨ub, rfl⟩ := Int.eq_ofNat_of_zero_le (a := a5) (by omega)
    obtain ⟨pre, hpre⟩ : ∃ xs, xs = z0.take len0 := ⟨_, rfl⟩
    obtain ⟨xs, hxs⟩ : ∃ xs, xs = z1.take len1 := ⟨_, rfl⟩
    obtain ⟨tl, htl⟩ : ∃ xs, xs = z2.take len2 := ⟨_, rfl⟩
    rw [← hpre] at hP hl0 hbP
    rw [← hxs] at hcl hl1
    rw [← htl] at hT hl2 hbT
    clear hpre hxs htl w0 w1 w2
    subst hl0
    subst hl1
    subst hl2
    exact core F a0 a1 a2 cap0 cap1 cap2 pre xs tl n lb ub (ub - lb) _ _ _ _ _ _ w hF hcl hP hT hbP hbT (by omega) (by omega) (by omega) ⟨by omega⟩ rfl rfl rfl rfl (ownWays pre xs tl n lb (ub - lb) (by omega))

end Go.Proofs.Qxb6614317aFmt.fnDecoderWithinReadsOnlyItsOwnBits
