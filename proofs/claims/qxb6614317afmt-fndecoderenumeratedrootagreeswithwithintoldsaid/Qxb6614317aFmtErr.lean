/- fmt.Errorf at the five formats of package ngap: a new error, not nil; nothing that was there has turned. -/
import Derived.Test.Qxb6614317aFmtFacts
namespace Go.Proofs.Qxb6614317aFmt
open Go.RowKit Go.Extern.Stop Go.Stop Go.Extern
attribute [local go_sem] call40 guard40 printed_cut printed_above printed_outside printed_number printed_frag act3 op3 act27 op27 ptr62 elem62

theorem errorf_cut (F : Interp) (x : Int) (a : Addr) (w : World) (hF : F.answers w.tape) (hc : w.cell? a = some (.iface 3 (.int .i64 x))) :
    Calls Tryf.prog 34 #[.string fm_cut, .slice (some a) 1 1] w fun e w' => (∃ p, e = .returned (.iface 62 (.pointer (some p)))) ∧ Below w.heap.size w w' := by
  have hF' := answers_open hF
  go_enter Tryf.func34, Tryf.ntmps34
  go_wp2
  apply rows_value nextTurns
  case hr =>
    go_simp
    exact ⟨rfl, rfl⟩
  case h =>
    go_wp2
    go_ret
    exact ⟨⟨_, rfl⟩, ((Below.refl _ _).alloc (Nat.le_refl _) _).drew⟩
theorem errorf_number (F : Interp) (x : Int) (a : Addr) (w : World) (hF : F.answers w.tape) (hc : w.cell? a = some (.iface 3 (.int .i64 x))) :
    Calls Tryf.prog 34 #[.string fm_number, .slice (some a) 1 1] w fun e w' => (∃ p, e = .returned (.iface 62 (.pointer (some p)))) ∧ Below w.heap.size w w' := by
  have hF' := answers_open hF
  go_enter Tryf.func34, Tryf.ntmps34
  go_wp2
  apply rows_value nextTurns
  case hr =>
    go_simp
    exact ⟨rfl, rfl⟩
  case h =>
    go_wp2
    go_ret
    exact ⟨⟨_, rfl⟩, ((Below.refl _ _).alloc (Nat.le_refl _) _).drew⟩
theorem errorf_above (F : Interp) (x y : Int) (b : Nat) (w : World) (hF : F.answers w.tape) (hc : w.cell? ⟨b, 0, none⟩ = some (.iface 27 (.int .u64 x))) (hc1 : w.cell? ⟨b, 1, none⟩ = some (.iface 27 (.int .u64 y))) :
    Calls Tryf.prog 34 #[.string fm_above, .slice (some ⟨b, 0, none⟩) 2 2] w fun e w' => (∃ p, e = .returned (.iface 62 (.pointer (some p)))) ∧ Below w.heap.size w w' := by
  have hF' := answers_open hF
  go_enter Tryf.func34, Tryf.ntmps34
  go_wp2
  apply rows_value nextTurns
  case hr =>
    go_simp
    exact ⟨rfl, rfl⟩
  case h =>
    go_wp2
    go_ret
    exact ⟨⟨_, rfl⟩, ((Below.refl _ _).alloc (Nat.le_refl _) _).drew⟩
theorem errorf_outside (F : Interp) (x y : Int) (b : Nat) (w : World) (hF : F.answers w.tape) (hc : w.cell? ⟨b, 0, none⟩ = some (.iface 27 (.int .u64 x))) (hc1 : w.cell? ⟨b, 1, none⟩ = some (.iface 27 (.int .u64 y))) :
    Calls Tryf.prog 34 #[.string fm_outside, .slice (some ⟨b, 0, none⟩) 2 2] w fun e w' => (∃ p, e = .returned (.iface 62 (.pointer (some p)))) ∧ Below w.heap.size w w' := by
  have hF' := answers_open hF
  go_enter Tryf.func34, Tryf.ntmps34
  go_wp2
  apply rows_value nextTurns
  case hr =>
    go_simp
    exact ⟨rfl, rfl⟩
  case h =>
    go_wp2
    go_ret
    exact ⟨⟨_, rfl⟩, ((Below.refl _ _).alloc (Nat.le_refl _) _).drew⟩
theorem errorf_frag (w : World) :
    Calls Tryf.prog 34 #[.string fm_frag, .slice none 0 0] w fun e w' => (∃ p, e = .returned (.iface 62 (.pointer (some p)))) ∧ Below w.heap.size w w' := by
  go_enter Tryf.func34, Tryf.ntmps34
  go_wp2
  go_ret
  exact ⟨⟨_, rfl⟩, (Below.refl _ _).alloc (Nat.le_refl _) _⟩
end Go.Proofs.Qxb6614317aFmt
