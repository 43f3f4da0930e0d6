/- fail, cutShort, align: the leaves of the decoder. -/
import Derived.Test.Qxb6614317aFmtBase
import Derived.Deep.QuietTactic
import Derived.BigQuiet
import Derived.BigRegion
namespace Go.Proofs.Qxb6614317aFmt
open Go.RowKit Go.Extern.Stop Go.Stop Go.Extern

theorem fail_any {F : Interp} {w : World} {b : Nat} {a : Option Addr} {xs : List Int} {s : St} (fmt : ByteArray) (va : Value) (hD : D F w b a xs s)
    (hE : Calls Tryf.prog 34 #[.string fmt, va] w fun e w' => (∃ p, e = .returned (.iface 62 (.pointer (some p)))) ∧ Below w.heap.size w w') :
    Calls Tryf.prog 31 #[.pointer (some ⟨b, 0, none⟩), .string fmt, va] w fun e w' => e = .returned (.tuple #[]) ∧ D F w' b a xs ⟨s.n, true⟩ ∧ Below b w w' := by
  obtain ⟨n, bad⟩ := s
  obtain ⟨h0, h1, ⟨er, h2, he⟩, hf1, hf2⟩ := hD.cells
  cases bad with
  | true =>
    obtain ⟨p, rfl⟩ := he
    have HD : Hid (D F w b a xs ⟨n, true⟩) := hD
    clear hD hE
    go_enter Tryf.func31, Tryf.ntmps31
    go_wp2
    go_end0
    exact ⟨rfl, HD.out, Below.refl _ _⟩
  | false =>
    have he' : er = .nilIface := he
    subst he'
    have HD : Hid (D F w b a xs ⟨n, false⟩) := hD
    have HE : Hid (Calls Tryf.prog 34 #[.string fmt, va] w fun e w' => (∃ p, e = .returned (.iface 62 (.pointer (some p)))) ∧ Below w.heap.size w w') := hE
    have hlt := hD.lt
    clear hD hE
    go_enter Tryf.func31, Tryf.ntmps31
    go_wp2_with (go_at_call 34; refine HE.out.mono ?_; rintro e w1 ⟨⟨p, rfl⟩, hb⟩; have HD1 : Hid (D F w1 b a xs ⟨n, false⟩) := HD.out.below hb hlt; obtain ⟨_, _, ⟨er1, k2, _⟩, _, kf⟩ := HD1.out.cells)
    go_end0
    exact ⟨rfl, HD1.out.setErr p, (Below.mono (B' := b) hb (by omega)).setCell (Nat.le_refl _) _⟩

theorem cutShort_any {F : Interp} {w : World} {b : Nat} {a : Option Addr} {xs : List Int} {s : St} (hD : D F w b a xs s) :
    Calls Tryf.prog 29 #[.pointer (some ⟨b, 0, none⟩)] w fun e w' => e = .returned (.tuple #[]) ∧ D F w' b a xs ⟨s.n, true⟩ ∧ Below b w w' := by
  obtain ⟨h0, _⟩ := hD.cells
  have HD : Hid (D F w b a xs s) := hD
  have hlt := hD.lt
  clear hD
  go_enter Tryf.func29, Tryf.ntmps29
  go_wp2_with (go_at_call 31; refine (fail_any fm_cut _ (HD.out.alloc _) (errorf_cut F _ _ _ (HD.out.alloc _).tape (by simp [go_sem]; rfl))).mono ?_; rintro e w1 ⟨rfl, hD1, hb⟩)
  go_end0
  exact ⟨rfl, hD1, ((Below.refl b w).alloc (by omega) _).trans hb⟩

def alignS (s : St) : St := if s.bad = false ∧ 0 < s.n % 8 then ⟨s.n + (8 - s.n % 8), s.bad⟩ else s

theorem align_any {F : Interp} {w : World} {b : Nat} {a : Option Addr} {xs : List Int} {s : St} (hD : D F w b a xs s) :
    Calls Tryf.prog 36 #[.pointer (some ⟨b, 0, none⟩)] w fun e w' => e = .returned (.tuple #[]) ∧ D F w' b a xs (alignS s) ∧ Below b w w' := by
  obtain ⟨n, bad⟩ := s
  obtain ⟨h0, h1, ⟨er, h2, he⟩, hf1, hf2⟩ := hD.cells
  have hfit : n ≤ 8 * xs.length := hD.fit
  have hsm := hD.small
  have HD : Hid (D F w b a xs ⟨n, bad⟩) := hD
  clear hD
  cases bad with
  | true =>
    obtain ⟨p, rfl⟩ := he
    go_enter Tryf.func36, Tryf.ntmps36
    go_wp2
    go_end0
    exact ⟨rfl, HD.out, Below.refl _ _⟩
  | false =>
    have he' : er = .nilIface := he
    subst he'
    by_cases hz : n % 8 = 0
    · have e1 : alignS ⟨n, false⟩ = ⟨n, false⟩ := by simp [alignS]; omega
      rw [e1]
      have hz' : (n : Int) % 8 = 0 := by omega
      clear e1 hz
      go_enter Tryf.func36, Tryf.ntmps36
      go_wp2
      go_end0
      exact ⟨rfl, HD.out, Below.refl _ _⟩
    · have e1 : alignS ⟨n, false⟩ = ⟨n + (8 - n % 8), false⟩ := by simp [alignS]; omega
      rw [e1]
      have hz' : 0 < (n : Int) % 8 := by omega
      have hc : ((n + (8 - n % 8) : Nat) : Int) = (n : Int) + (8 - (n : Int) % 8) := by omega
      have HC : Hid (((n + (8 - n % 8) : Nat) : Int) = (n : Int) + (8 - (n : Int) % 8)) := hc
      clear e1 hz hc
      go_enter Tryf.func36, Tryf.ntmps36
      go_wp2
      go_region
      go_end0
      refine ⟨rfl, ?_, ((Below.refl b w).setCell (Nat.le_refl _) _).drew⟩
      rw [← HC.out]
      exact (HD.out.setN _ (by omega)).drew

end Go.Proofs.Qxb6614317aFmt
