/- The callees' contracts on the road of FnEncoderAlignMeetsDecoderAlign. -/
import Derived.Test.Qxb6614317aRows
import Derived.WalkKit
import Derived.WalkSpells
import Derived.WalkLawsBesides
import Derived.Laws.CopyOwn
import Derived.Lib.SliceRun
import Derived.Deep.OwnRows
import Derived.ProofKit
import Derived.BigRegion
namespace Go.Proofs.Qxb6614317a
open Go.RowKit

theorem info5 : (Try.prog.info? 5).map (fun i => (i.zero, i.size, i.bytes)) = some (some (.int .u8 0), 1, 1) := by kernel_rfl
theorem info5s : (Try.prog.info? 5).map (·.size) = some 1 := by kernel_rfl

theorem eqNil (w : World) (a : Option Addr) (n c n' c' : Nat) : (binOp .eql 22 (.slice a n c) (.slice none n' c')).run Try.prog w = .ok (.bool a.isNone) w :=
  Lib.run_eql_slice_nil w 22 5 a n c n' c' Try.underlying22

theorem clone_nil (w : World) : Calls Try.prog 6 #[.slice none 0 0] w fun e w' => e = .returned (.slice none 0 0) ∧ w' = w := by
  have q := eqNil
  go_enter Try.func6, Try.ntmps6
  go_wp2
  go_ret
  exact ⟨rfl, rfl⟩

/-- The cells of a row of bytes. -/
def bc (zs : List Int) : List Value := zs.map (Value.int .u8)

theorem bc_length (zs : List Int) : (bc zs).length = zs.length := by simp [bc]
theorem bc_one (zs : List Int) : ∀ v ∈ bc zs, v.oneCell' = true := by
  intro v hv
  obtain ⟨z, _, rfl⟩ := List.mem_map.1 hv
  rfl

theorem clone_some (x : Addr) (len cap : Nat) (xs : List Int) (w : World) (hl : xs.length = len) (hb : len ≤ 1048576)
    (hcell : ∀ j v, (bc xs)[j]? = some v → w.cell? (x.add j) = some v) :
    Calls Try.prog 6 #[.slice (some x) len cap] w fun e w' => e = .returned (.slice (some ⟨w.heap.size, 0, none⟩) len len) ∧
      w'.heap.size = w.heap.size + 1 ∧ w'.heap[w.heap.size]? = some (.cells (bc xs).toArray 5 (0, 0)) ∧ Below w.heap.size w w' := by
  have q := eqNil
  obtain ⟨M, hM⟩ : ∃ M, M = madeCells #[Value.int .u8 0] len := ⟨_, rfl⟩
  have hMs : M.size = len := by rw [hM, size_madeCells]
  have hmk : ∀ W : World, (Instr.makeSlice 22 (.int .i64 (len : Int)) (.int .i64 (len : Int))).run Try.prog W = .ok (.slice (some ⟨W.heap.size, 0, none⟩) len len) (W.alloc (.cells M 5)) := fun W => by
    rw [hM]; exact run_make_row' (P := Try.prog) 22 5 (.int .u8 0) 1 Try.underlying22 info5 rfl .i64 .i64 len (by omega) (by omega) W
  clear hM
  have hcp : ∀ ty, (Builtin.copy_ #[22, 22] ty #[.slice (some ⟨w.heap.size, 0, none⟩) len len, .slice (some x) len cap]).run Try.prog (w.alloc (.cells M 5)) = .ok (goInt len) ((w.alloc (.cells M 5)).setRow w.heap.size (bc xs).toArray) := fun ty => by
    have h := run_copy_row (P := Try.prog) (w.alloc (.cells M 5)) 22 22 ty 5 w.heap.size 0 len len x len cap M 5 (bc xs) Try.underlying22 info5s (heap_alloc_new w _) (by rw [bc_length, hl]; exact (Nat.min_self len).symm)
      (fun j v hj => cell_later ((Below.refl _ w).alloc (Nat.le_refl _) _) (hcell j v hj)) (by rw [bc_length]; omega) (bc_one xs)
    rw [h, bc_length, hl]
    congr 2
    simp [List.drop_of_length_le, hMs]
  clear hcell
  go_enter Try.func6, Try.ntmps6
  go_wp2
  go_ret
  refine ⟨rfl, ?_, ?_, ?_⟩
  · simp [World.setRow]
  · exact setRow_heap _ _ M _ 5 (0, 0) (heap_alloc_new w _)
  · exact below_setRow ((Below.refl _ w).alloc (Nat.le_refl _) _) (Nat.le_refl _) _

theorem encAlign (b : Nat) (a : Option Addr) (len cap : Nat) (n : Int) (w : World) (h0 : w.cell? ⟨b, 0, none⟩ = some (.slice a len cap)) (h1 : w.cell? ⟨b, 1, none⟩ = some (.int .i64 n)) (hf : w.frozen? ⟨b, 1, none⟩ = false) (hl : len ≤ 1048576) :
    Calls Try.prog 8 #[.pointer (some ⟨b, 0, none⟩)] w fun e w' => e = .returned (.tuple #[]) ∧ w' = w.setCell ⟨b, 1, none⟩ (.int .i64 (8 * len)) := by
  go_enter Try.func8, Try.ntmps8
  go_wp2
  go_end0
  go_wp2
  go_end0
  exact ⟨rfl, rfl⟩

theorem decAlign_no (b : Nat) (n : Int) (w : World) (h1 : w.cell? ⟨b, 1, none⟩ = some (.int .i64 n)) (h2 : w.cell? ⟨b, 2, none⟩ = some .nilIface) (hn : 0 ≤ n) (hn2 : n ≤ 8388608) (hz : n % 8 = 0) :
    Calls Try.prog 14 #[.pointer (some ⟨b, 0, none⟩)] w fun e w' => e = .returned (.tuple #[]) ∧ w' = w := by
  go_enter Try.func14, Try.ntmps14
  go_wp2
  go_end0
  go_wp2
  go_end0
  exact ⟨rfl, rfl⟩

theorem decAlign_yes (b : Nat) (n : Int) (w : World) (h1 : w.cell? ⟨b, 1, none⟩ = some (.int .i64 n)) (h2 : w.cell? ⟨b, 2, none⟩ = some .nilIface) (hf : w.frozen? ⟨b, 1, none⟩ = false) (hn : 0 ≤ n) (hn2 : n ≤ 8388608) (hz : 0 < n % 8) :
    Calls Try.prog 14 #[.pointer (some ⟨b, 0, none⟩)] w fun e w' => e = .returned (.tuple #[]) ∧ w' = (w.setCell ⟨b, 1, none⟩ (.int .i64 (n + (8 - n % 8)))).drew := by
  go_enter Try.func14, Try.ntmps14
  go_wp2
  go_region
  go_end0
  go_wp2
  go_end0
  exact ⟨rfl, rfl⟩

end Go.Proofs.Qxb6614317a
