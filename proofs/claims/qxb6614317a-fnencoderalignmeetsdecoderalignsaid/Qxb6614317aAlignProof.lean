/- The proof of 'Rows.FnEncoderAlignMeetsDecoderAlignSaid', in the shell that the kit's tool wrote for this program. -/
import Derived.Test.Qxb6614317aCallees
import Derived.WalkKit
import Derived.ProofKit
import Derived.OpenShut
import Derived.ShutString
import Derived.ChangeOld
import Derived.Below
namespace Go.Proofs.Qxb6614317a.fnEncoderAlignMeetsDecoderAlign
open Go.ChangeShapes Go.WideShapes Go.ChangeAt Go.RowKit
open Go.ChangeMaps (open_string shut_string)
set_option linter.unusedVariables false

theorem own : ownKnob Try.prog.godebug = none := by kernel_rfl
theorem laidOut : laidOutB Try.prog = true := by kernel_rfl

/-- WHAT THE WALK IS TOLD OF A SLICE OF INTEGERS THAT CAME IN: it is nil; or it leads to a row of 'cap' cells, the numbers 'zs' (the first 'len' are its elements, the rest its spare room), each fitting its kind. -/
def IsRow (k : IntKind) (w : World) (a : Option Addr) (len cap : Nat) (zs : List Int) : Prop :=
  (a = none ∧ len = 0 ∧ cap = 0 ∧ zs = []) ∨
  ∃ x, a = some x ∧ len ≤ cap ∧ cap ≤ maxLen ∧ zs.length = cap ∧ (∀ i, i < zs.length → w.cell? (x.add i) = some (.int k (zs.getD i 0))) ∧ ∀ n ∈ zs, (Lit.int k n).wf = true


theorem ret_bool {b c : Bool} (h : b = c) : Ending.returned (.bool b) = .returned (.bool c) := by rw [h]
theorem aligned_mod (n : Int) : ((n + (8 - n % 8)) % 8 == 0) = true := by simp; omega
theorem zz12_no (a : Option Addr) (len cap : Nat) (n : Int) (w : World) (hm : len ≤ 9223372036854775807) (h : (1048576 : Int) < len) :
    Calls Try.prog 12 #[.slice a len cap, .int .i64 n] w fun e w' => e = .returned (.bool false) ∧ w' = w := by
  go_enter Try.func12, Try.ntmps12
  go_wp2
  go_ret
  exact ⟨rfl, rfl⟩
theorem zz12_yes (a : Option Addr) (len cap : Nat) (n : Int) (w : World) (h : (len : Int) ≤ 1048576) :
    Calls Try.prog 12 #[.slice a len cap, .int .i64 n] w fun e w' => e = .returned (.bool true) ∧ w' = w := by
  go_enter Try.func12, Try.ntmps12
  go_wp2
  go_ret
  exact ⟨rfl, rfl⟩

theorem clone_any (a : Option Addr) (len cap : Nat) (zs : List Int) (w : World) (h : IsRow .u8 w a len cap zs) (hb : (len : Int) ≤ 1048576) :
    Calls Try.prog 6 #[.slice a len cap] w fun e w' => ∃ a', e = .returned (.slice a' len len) ∧ Below w.heap.size w w' := by
  rcases h with ⟨rfl, rfl, rfl, rfl⟩ | ⟨x, rfl, hl, hm, hz, hc, _⟩
  · refine (clone_nil w).mono ?_
    rintro e w' ⟨rfl, rfl⟩
    exact ⟨none, rfl, Below.refl _ _⟩
  · refine (clone_some x len cap (zs.take len) w (by simp; omega) (by omega) ?_).mono ?_
    · intro j v hj
      have hj2 : j < len ∧ j < zs.length := by
        have := (List.getElem?_eq_some_iff.1 hj).1
        rw [bc_length, List.length_take] at this; omega
      have := hc j hj2.2
      rw [this]
      simp [bc, hj2.1] at hj
      obtain ⟨z, h1, rfl⟩ := hj
      simp [List.getD, h1]
    · rintro e w' ⟨rfl, _, _, hb⟩
      exact ⟨_, rfl, hb⟩

theorem walk (a0 : Option Addr) (len0 cap0 : Nat) (z0 : List Int) (a1 : Int) (w : World) (w0 : IsRow .u8 w a0 len0 cap0 z0) (w1 : (Lit.int .i64 a1).wf = true) :
    Calls Try.prog 4 #[.slice a0 len0 cap0, .int .i64 a1] w fun e w' => e = .returned (.bool true) ∧ Below w.heap.size w w' := by
  have hm : len0 ≤ 9223372036854775807 := by
    rcases w0 with ⟨_, h, _⟩ | ⟨x, _, h1, h2, _⟩
    · omega
    · unfold maxLen at h2; omega
  by_cases hbig : (1048576 : Int) < len0
  · go_enter Try.func4, Try.ntmps4
    go_wp2_with (go_at_call 12; refine (zz12_no _ _ _ _ _ hm hbig).mono ?_; rintro e w' ⟨rfl, rfl⟩)
    go_ret
    exact ⟨rfl, Below.refl _ _⟩
  have hle : (len0 : Int) ≤ 1048576 := by omega
  clear hbig
  by_cases hn : a1 < 0
  · go_enter Try.func4, Try.ntmps4
    go_wp2_with (go_at_call 12; refine (zz12_yes _ _ _ _ _ hle).mono ?_; rintro e w' ⟨rfl, rfl⟩)
    go_ret
    exact ⟨rfl, Below.refl _ _⟩
  have hn0 : 0 ≤ a1 := by omega
  clear hn
  by_cases hn : 8 * (len0 : Int) < a1
  · go_enter Try.func4, Try.ntmps4
    go_wp2_with (go_at_call 12; refine (zz12_yes _ _ _ _ _ hle).mono ?_; rintro e w' ⟨rfl, rfl⟩)
    go_ret
    exact ⟨rfl, Below.refl _ _⟩
  have hn1 : a1 ≤ 8 * (len0 : Int) := by omega
  clear hn
  by_cases hn : a1 + 7 < 8 * (len0 : Int)
  · go_enter Try.func4, Try.ntmps4
    go_wp2_with (go_at_call 12; refine (zz12_yes _ _ _ _ _ hle).mono ?_; rintro e w' ⟨rfl, rfl⟩)
    go_ret
    exact ⟨rfl, Below.refl _ _⟩
  have hn2 : 8 * (len0 : Int) ≤ a1 + 7 := by omega
  clear hn
  by_cases hz : a1 % 8 = 0
  · go_enter Try.func4, Try.ntmps4
    go_wp2_with (first
      | (go_at_call 12; refine (zz12_yes _ _ _ _ _ hle).mono ?_; rintro e w' ⟨rfl, rfl⟩)
      | (go_at_call 6; refine (clone_any _ _ _ _ _ w0 hle).mono ?_; rintro e w1 ⟨a', rfl, hb⟩)
      | (go_at_call 7; go_in)
      | (go_at_call 8; refine (encAlign _ a' len0 len0 a1 _ (by simp [go_sem]) (by simp [go_sem]) (by simp [go_sem]) (by omega)).mono ?_; rintro e w2 ⟨rfl, rfl⟩)
      | (go_at_call 9; go_in)
      | (go_at_call 13; go_in)
      | (go_at_call 14; refine (decAlign_no _ a1 _ (by simp [go_sem]) (by simp [go_sem]) (by omega) (by omega) hz).mono ?_; rintro e w2 ⟨rfl, rfl⟩)
      | (go_at_call 15; go_in)
      | (go_at_call 16; go_in))
    go_ret
    have hs := hb.size
    exact ⟨rfl, (hb.alloc hs _).alloc (by simp; omega) _⟩
  · have hz' : 0 < a1 % 8 := by omega
    clear hz
    go_enter Try.func4, Try.ntmps4
    go_wp2_with (first
      | (go_at_call 12; refine (zz12_yes _ _ _ _ _ hle).mono ?_; rintro e w' ⟨rfl, rfl⟩)
      | (go_at_call 6; refine (clone_any _ _ _ _ _ w0 hle).mono ?_; rintro e w1 ⟨a', rfl, hb⟩)
      | (go_at_call 7; go_in)
      | (go_at_call 8; refine (encAlign _ a' len0 len0 a1 _ (by simp [go_sem]) (by simp [go_sem]) (by simp [go_sem]) (by omega)).mono ?_; rintro e w2 ⟨rfl, rfl⟩)
      | (go_at_call 9; go_in)
      | (go_at_call 13; go_in)
      | (go_at_call 14; refine (decAlign_yes _ a1 _ (by simp [go_sem]) (by simp [go_sem]) (by simp [go_sem]) (by omega) (by omega) hz').mono ?_; rintro e w2 ⟨rfl, rfl⟩)
      | (go_at_call 15; go_in)
      | (go_at_call 16; go_in))
    go_ret
    have hs := hb.size
    exact ⟨ret_bool (aligned_mod a1), ((hb.alloc hs _).alloc (by simp; omega) _).drew⟩

/-! ### THE ROW's STEP: WRITTEN OUT: LEAVE IT -/
set_option maxRecDepth 100000 in
theorem lifted (os : Os) (started : os.Started) (H : Type) (enc : TypeId × Value → H) :
    ReturnsInHanded {} Try.checked os 4 .any (Rows.fnEncoderAlignMeetsDecoderAlignSpec.pre6 enc Try.prog Try.f4 Rows.fnEncoderAlignMeetsDecoderAlignRow.domain false) (Rows.fnEncoderAlignMeetsDecoderAlignSpec.post enc Try.prog Try.f4 false true false false) := by
  refine returnsInHanded_of_change (C := Try.checked) own started (by kernel_rfl) Try.func4
    (ChangeSpec.witness6 (enc := enc) (C := Try.checked) false ⟨#[], #[.slice none 0 0, .int .i64 0], []⟩ 8 (by kernel_rfl) (by kernel_rfl) (by kernel_rfl) (by kernel_rfl)) ?_
  intro W base args ds gs before hval0 hW hcnd _
  have hval : ∀ (j : Nat) t v, Try.f4.params[j]? = some t → args[j]? = some v → Value.okWide Try.prog W .any base t v := hval0
  have hW' := hW
  obtain ⟨p, q, hA0, hV, rfl, hfz, hnd⟩ := hW
  have hA : DataW.TrodAll enc Try.prog W 0 (fun _ => true) true Try.f4.params.toList args.toList ds p := hA0
  rw [Try.params4] at hA hval
  obtain ⟨v0, vs0, d0, ds0, p0, q0, hargs, rfl, rfl, h0, r0⟩ := trodAll_cons hA
  obtain ⟨v1, vs1, d1, ds1, p1, q1, rfl, rfl, rfl, h1, r1⟩ := trodAll_cons r0
  obtain ⟨rfl, rfl, rfl⟩ := trodAll_nil r1
  obtain rfl : args = #[v0, v1] := by cases args; simp_all
  obtain ⟨rfl, rfl⟩ := trodVars_none hV
  obtain ⟨a0, len0, cap0, rfl⟩ := okWide_slice Try.underlying22 (hval 0 22 v0 rfl rfl)
  have k0 := h0
  have lt0 : ∀ x ∈ p0, x.block < W.heap.size := by obtain ⟨m, hm⟩ := k0; exact DataW.trod_lt m _ _ _ hm
  obtain ⟨z0, w0⟩ : ∃ zs, IsRow .u8 W a0 len0 cap0 zs := by
    obtain ⟨fuel, hf⟩ := h0
    rcases open_ints Try.underlying22 Try.underlying5 (by kernel_rfl) hf with ⟨hcs, _⟩ | ⟨x, l, c, zs, hcs, _, hl, hm, hz, _, hcell, hwz⟩
    · simp [Value.cells] at hcs
      obtain ⟨rfl, rfl, rfl⟩ := hcs
      exact ⟨[], .inl ⟨rfl, rfl, rfl, rfl⟩⟩
    · simp [Value.cells] at hcs
      obtain ⟨rfl, rfl, rfl⟩ := hcs
      exact ⟨zs, .inr ⟨_, rfl, hl, hm, by simpa using hz, hcell, hwz⟩⟩
  obtain ⟨a1, rfl, rfl, rfl, w1⟩ := open_int Try.underlying3 (hval 1 3 v1 rfl rfl) h1
  clear hA0 hval0
  refine (walk a0 len0 cap0 z0 a1 W w0 w1).mono fun e W' ⟨he, bel⟩ => ?_
  subst he
  exact ⟨_, rfl, _, _, _, [], _, [], hW', trodAll_mk1 (shut_bool Try.underlying4 _), (trodAll_cons_mk (Below.trod laidOut (by kernel_rfl) (of_decide_eq_true (by kernel_rfl)) k0 bel lt0) (trodAll_cons_mk (shut_int Try.underlying3 w1) trodAll_mk0)), rfl, bel.frame _, fun h => by cases h⟩

theorem over : Rows.fnEncoderAlignMeetsDecoderAlignRow.holds Try.pinned (OpenSpec.ofChange Rows.fnEncoderAlignMeetsDecoderAlignSpec) :=
  OpenClaim.holds_of_wide 4 Try.f4 rfl rfl rfl rfl rfl rfl rfl ⟨rfl, rfl, rfl, rfl, rfl⟩ rfl rfl rfl rfl rfl (by kernel_rfl) Try.func4 (by kernel_rfl)
    (of_decide_eq_true (by kernel_rfl)) (by unfold Func.isWrapper; first | (rw [if_pos (by decide +kernel)]; kernel_rfl) | (rw [if_neg (by decide +kernel)]; exact ⟨rfl, rfl⟩))
    (fun os started H enc _ => lifted os started H enc)

/-- ████ THE STATEMENT ████ -/
theorem proved : Rows.FnEncoderAlignMeetsDecoderAlignSaid := over
end Go.Proofs.Qxb6614317a.fnEncoderAlignMeetsDecoderAlign
