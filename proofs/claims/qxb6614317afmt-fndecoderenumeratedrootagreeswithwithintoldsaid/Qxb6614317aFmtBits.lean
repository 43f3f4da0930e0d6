/- (*decoder).bits -/
import Derived.Test.Qxb6614317aFmtLeaf
import Derived.Test.Qxb6614317aFmtPlain
namespace Go.Proofs.Qxb6614317aFmt
open Go.RowKit Go.Extern.Stop Go.Stop Go.Extern

theorem D.cellAt {F : Interp} {w : World} {b : Nat} {a : Option Addr} {xs : List Int} {s : St} (hD : D F w b a xs s) (h : 0 < xs.length) :
    ∃ g, a = some ⟨g, 0, none⟩ ∧ ∀ i, i < xs.length → w.cell? ⟨g, i, none⟩ = some (.int .u8 (xs.getD i 0)) := by
  rcases hD.data with ⟨_, h2⟩ | ⟨g, _, h2, h3⟩
  · rw [h2] at h; simp at h
  · refine ⟨g, h2, fun i hi => ?_⟩
    rw [cell_of_heap h3]
    simp [bc, hi]

theorem bits_bad {F : Interp} {w : World} {b : Nat} {a : Option Addr} {xs : List Int} {n : Nat} (k : Int) (hD : D F w b a xs ⟨n, true⟩) :
    Calls Tryf.prog 26 #[.pointer (some ⟨b, 0, none⟩), .int .i64 k] w fun e w' => e = .returned (.int .u64 0) ∧ w' = w := by
  obtain ⟨_, _, ⟨er, h2, ⟨p, rfl⟩⟩, _⟩ := hD.cells
  clear hD
  go_enter Tryf.func26, Tryf.ntmps26
  go_wp2
  go_ret
  exact ⟨rfl, rfl⟩

theorem bits_cut {F : Interp} {w : World} {b : Nat} {a : Option Addr} {xs : List Int} {n : Nat} (k : Nat) (hk : k ≤ 64) (hcut : 8 * xs.length < n + k) (hD : D F w b a xs ⟨n, false⟩) :
    Calls Tryf.prog 26 #[.pointer (some ⟨b, 0, none⟩), .int .i64 k] w fun e w' => e = .returned (.int .u64 0) ∧ D F w' b a xs ⟨n, true⟩ ∧ Below b w w' := by
  obtain ⟨h0, h1, ⟨er, h2, he⟩, _⟩ := hD.cells
  have he' : er = .nilIface := he
  subst he'
  have hfit : n ≤ 8 * xs.length := hD.fit
  have hsm := hD.small
  have HD : Hid (D F w b a xs ⟨n, false⟩) := hD
  have hcut' : 8 * (xs.length : Int) < (n : Int) + (k : Int) := by omega
  clear hD he
  go_enter Tryf.func26, Tryf.ntmps26
  go_wp2
  go_quiet (fail)
  go_wp2_with (go_at_call 29; refine (cutShort_any (HD.out.drewN _)).mono ?_; rintro e w1 ⟨rfl, hD1, hb⟩)
  go_ret
  exact ⟨rfl, hD1, (bdN (Below.refl b w) _).trans hb⟩

theorem bits_go {F : Interp} {w : World} {b : Nat} {a : Option Addr} {xs : List Int} {n : Nat} (k : Nat) (hk : k ≤ 64) (hcut : n + k ≤ 8 * xs.length) (hD : D F w b a xs ⟨n, false⟩) :
    Calls Tryf.prog 26 #[.pointer (some ⟨b, 0, none⟩), .int .i64 k] w fun e w' => e = .returned (.int .u64 (rd xs n k)) ∧ D F w' b a xs ⟨n + k, false⟩ ∧ Below b w w' := by
  obtain ⟨h0, h1, ⟨er, h2, he⟩, _⟩ := hD.cells
  have he' : er = .nilIface := he
  subst he'
  have hfit : n ≤ 8 * xs.length := hD.fit
  have hsm := hD.small
  have HD : Hid (D F w b a xs ⟨n, false⟩) := hD
  have hcut' : (n : Int) + (k : Int) ≤ 8 * (xs.length : Int) := by omega
  clear hD he
  go_enter Tryf.func26, Tryf.ntmps26
  go_wp2
  go_quiet (fail)
  go_wp2
  go_loopw [5, 27] (fun v i wr => ∃ j : Nat, j ≤ k ∧ i = .int .i64 j ∧ v = .int .u64 (rd xs n j) ∧ D F wr b a xs ⟨n + j, false⟩ ∧ Below b w wr) (fun _ i _ => k - (intOf i).toNat)
  case atStart => exact ⟨0, by omega, rfl, rfl, HD.out.drewN _, bdN (Below.refl b w) _⟩
  case round =>
    obtain ⟨j, hj, rfl, rfl, hDr, hbr⟩ := hrel
    clear h0 h1 h2
    by_cases hlt : j < k
    · obtain ⟨h0, h1, ⟨er, h2, he⟩, hf1, _⟩ := hDr.cells
      obtain ⟨g, rfl, hcell⟩ := hDr.cellAt (by omega)
      have hc := hcell ((n + j) / 8) (by omega)
      have hi1 : ((n : Int) + (j : Int)) / 8 < (xs.length : Int) := by omega
      have HDr : Hid (D F wr b (some ⟨g, 0, none⟩) xs ⟨n + j, false⟩) := hDr
      have Hbr : Hid (Below b w wr) := hbr
      clear hDr hbr hcell h2 he
      go_wp2
      go_quiet (fail)
      go_wp2
      go_roundw
      case rel =>
        refine ⟨j + 1, by omega, by go_num, by rw [rd_succ_value xs n j HDr.out.bytes (by omega)], ?_, ?_⟩
        · exact (HDr.out.setN (n + j + 1) (by omega)).drewN _
        · exact bdN (Hbr.out.setCell (Nat.le_refl _) _) _
      case measure => simp [intOf]; omega
    · go_wp2
      go_ret
      have e : j = k := by omega
      subst e
      exact ⟨rfl, hDr, hbr⟩

/-! ### bits, whatever the state -/
def bitsV (xs : List Int) (s : St) (k : Nat) : Nat := if s.bad = true ∨ 8 * xs.length < s.n + k then 0 else rd xs s.n k
def bitsS (xs : List Int) (s : St) (k : Nat) : St := if s.bad = true then s else if 8 * xs.length < s.n + k then ⟨s.n, true⟩ else ⟨s.n + k, false⟩

theorem bits_any {F : Interp} {w : World} {b : Nat} {a : Option Addr} {xs : List Int} {s : St} (k : Nat) (hk : k ≤ 64) (hD : D F w b a xs s) :
    Calls Tryf.prog 26 #[.pointer (some ⟨b, 0, none⟩), .int .i64 k] w fun e w' => e = .returned (.int .u64 (bitsV xs s k)) ∧ D F w' b a xs (bitsS xs s k) ∧ Below b w w' := by
  obtain ⟨n, bad⟩ := s
  cases bad with
  | true =>
    refine (bits_bad k hD).mono ?_
    rintro e w' ⟨rfl, rfl⟩
    exact ⟨rfl, hD, Below.refl _ _⟩
  | false =>
    by_cases hc : 8 * xs.length < n + k
    · refine (bits_cut k hk hc hD).mono ?_
      rintro e w' ⟨rfl, h1, h2⟩
      refine ⟨by simp [bitsV, hc], ?_, h2⟩
      simpa [bitsS, hc] using h1
    · refine (bits_go k hk (by omega) hD).mono ?_
      rintro e w' ⟨rfl, h1, h2⟩
      refine ⟨by simp [bitsV, hc], ?_, h2⟩
      simpa [bitsS, hc] using h1

end Go.Proofs.Qxb6614317aFmt
