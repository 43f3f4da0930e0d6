/- zzCloneBytes; what the walks are told of a slice that came in; ZZnewDecoder. -/
import Derived.Test.Qxb6614317aFmtBits
import Derived.Laws.CopyOwn
import Derived.Lib.SliceRun
import Derived.Deep.OwnRows
namespace Go.Proofs.Qxb6614317aFmt
open Go.RowKit Go.Extern.Stop Go.Stop Go.Extern

/-- A slice of integers that came in: nil; or a row of 'cap' cells, the numbers 'zs', each fitting its kind. -/
def IsRow (k : IntKind) (w : World) (a : Option Addr) (len cap : Nat) (zs : List Int) : Prop :=
  (a = none ∧ len = 0 ∧ cap = 0 ∧ zs = []) ∨
  ∃ x, a = some x ∧ len ≤ cap ∧ cap ≤ maxLen ∧ zs.length = cap ∧ (∀ i, i < zs.length → w.cell? (x.add i) = some (.int k (zs.getD i 0))) ∧ ∀ n ∈ zs, (Lit.int k n).wf = true

theorem info5 : (Tryf.prog.info? 5).map (fun i => (i.zero, i.size, i.bytes)) = some (some (.int .u8 0), 1, 1) := by kernel_rfl
theorem info5s : (Tryf.prog.info? 5).map (·.size) = some 1 := by kernel_rfl

theorem eqNil (w : World) (a : Option Addr) (n c n' c' : Nat) : (binOp .eql 22 (.slice a n c) (.slice none n' c')).run Tryf.prog w = .ok (.bool a.isNone) w :=
  Lib.run_eql_slice_nil w 22 5 a n c n' c' Tryf.underlying22

theorem clone_nil (w : World) : Calls Tryf.prog 10 #[.slice none 0 0] w fun e w' => e = .returned (.slice none 0 0) ∧ w' = w := by
  have q := eqNil
  go_enter Tryf.func10, Tryf.ntmps10
  go_wp2
  go_ret
  exact ⟨rfl, rfl⟩

theorem clone_some (x : Addr) (len cap : Nat) (xs : List Int) (w : World) (hl : xs.length = len) (hb : len ≤ 1048576)
    (hcell : ∀ j v, (bc xs)[j]? = some v → w.cell? (x.add j) = some v) :
    Calls Tryf.prog 10 #[.slice (some x) len cap] w fun e w' => e = .returned (.slice (some ⟨w.heap.size, 0, none⟩) len len) ∧
      w'.heap.size = w.heap.size + 1 ∧ w'.heap[w.heap.size]? = some (.cells (bc xs).toArray 5 (0, 0)) ∧ Below w.heap.size w w' := by
  have q := eqNil
  obtain ⟨M, hM⟩ : ∃ M, M = madeCells #[Value.int .u8 0] len := ⟨_, rfl⟩
  have hMs : M.size = len := by rw [hM, size_madeCells]
  have hmk : ∀ W : World, (Instr.makeSlice 22 (.int .i64 (len : Int)) (.int .i64 (len : Int))).run Tryf.prog W = .ok (.slice (some ⟨W.heap.size, 0, none⟩) len len) (W.alloc (.cells M 5)) := fun W => by
    rw [hM]; exact run_make_row' (P := Tryf.prog) 22 5 (.int .u8 0) 1 Tryf.underlying22 info5 rfl .i64 .i64 len (by omega) (by omega) W
  clear hM
  have hcp : ∀ ty, (Builtin.copy_ #[22, 22] ty #[.slice (some ⟨w.heap.size, 0, none⟩) len len, .slice (some x) len cap]).run Tryf.prog (w.alloc (.cells M 5)) = .ok (goInt len) ((w.alloc (.cells M 5)).setRow w.heap.size (bc xs).toArray) := fun ty => by
    have h := run_copy_row (P := Tryf.prog) (w.alloc (.cells M 5)) 22 22 ty 5 w.heap.size 0 len len x len cap M 5 (bc xs) Tryf.underlying22 info5s (heap_alloc_new w _) (by rw [bc_length, hl]; exact (Nat.min_self len).symm)
      (fun j v hj => cell_later ((Below.refl _ w).alloc (Nat.le_refl _) _) (hcell j v hj)) (by rw [bc_length]; omega) (bc_one xs)
    rw [h, bc_length, hl]
    congr 2
    simp [List.drop_of_length_le, hMs]
  clear hcell
  go_enter Tryf.func10, Tryf.ntmps10
  go_wp2
  go_ret
  refine ⟨rfl, ?_, ?_, ?_⟩
  · simp [World.setRow]
  · exact setRow_heap _ _ M _ 5 (0, 0) (heap_alloc_new w _)
  · exact below_setRow ((Below.refl _ w).alloc (Nat.le_refl _) _) (Nat.le_refl _) _

theorem IsRow.cells {w : World} {x : Addr} {len cap : Nat} {zs : List Int} (hl : len ≤ cap) (hz : zs.length = cap) (hc : ∀ i, i < zs.length → w.cell? (x.add i) = some (.int .u8 (zs.getD i 0))) :
    ∀ j v, (bc (zs.take len))[j]? = some v → w.cell? (x.add j) = some v := by
  intro j v hj
  have hj2 : j < len ∧ j < zs.length := by
    have := (List.getElem?_eq_some_iff.1 hj).1
    rw [bc_length, List.length_take] at this; omega
  have := hc j hj2.2
  rw [this]
  simp [bc, hj2.1] at hj
  obtain ⟨z, h1, rfl⟩ := hj
  simp [List.getD, h1]

theorem IsRow.lens {k : IntKind} {w : World} {a : Option Addr} {len cap : Nat} {zs : List Int} (h : IsRow k w a len cap zs) : len ≤ 9223372036854775807 ∧ (zs.take len).length = len := by
  rcases h with ⟨_, h, _, hz⟩ | ⟨x, _, h1, h2, h3, _⟩
  · subst h hz; simp
  · unfold maxLen at h2
    exact ⟨by omega, by simp; omega⟩

theorem byte_wf {n : Int} (h : (Lit.int .u8 n).wf = true) : 0 ≤ n ∧ n ≤ 255 := by
  simpa [Lit.wf, IntKind.min, IntKind.max, IntKind.signed, IntKind.bits] using h

/-- A slice of bytes that came in: of what it reads no more is wanted than that it reads as bytes. -/
structure Clones (w w' : World) (a' : Option Addr) (xs : List Int) : Prop where
  data : Data w' w'.heap.size a' xs
  below : Below w.heap.size w w'
  bytes : ∀ x ∈ xs, 0 ≤ x ∧ x ≤ 255

theorem clone_any {a : Option Addr} {len cap : Nat} {zs : List Int} {w : World} (h : IsRow .u8 w a len cap zs) (hb : (len : Int) ≤ 1048576) :
    Calls Tryf.prog 10 #[.slice a len cap] w fun e w' => ∃ a', e = .returned (.slice a' len len) ∧ Clones w w' a' (zs.take len) := by
  rcases h with ⟨rfl, rfl, rfl, rfl⟩ | ⟨x, rfl, hl, hm, hz, hc, hwf⟩
  · refine (clone_nil w).mono ?_
    rintro e w' ⟨rfl, rfl⟩
    exact ⟨none, rfl, .inl ⟨rfl, rfl⟩, Below.refl _ _, by simp⟩
  · refine (clone_some x len cap (zs.take len) w (by simp; omega) (by omega) (IsRow.cells hl hz hc)).mono ?_
    rintro e w' ⟨rfl, hs, hh, hb⟩
    exact ⟨_, rfl, .inr ⟨w.heap.size, by omega, rfl, hh⟩, hb, fun x hx => byte_wf (hwf x (List.mem_of_mem_take hx))⟩

/-- A new decoder over such data: what ZZnewDecoder lays. -/
theorem D.mk' {F : Interp} {w : World} {a : Option Addr} {xs : List Int} {n : Nat} (hd : Data w w.heap.size a xs) (ht : F.answers w.tape) (hs : xs.length ≤ 1048576) (hn : n ≤ 8 * xs.length) (hx : ∀ x ∈ xs, 0 ≤ x ∧ x ≤ 255) :
    D F (w.alloc (.cells #[.slice a xs.length xs.length, .int .i64 n, .nilIface] 44)) w.heap.size a xs ⟨n, false⟩ :=
  ⟨⟨_, heap_alloc_new w _, rfl⟩, hd.below ((Below.refl _ w).alloc (Nat.le_refl _) _) (Nat.le_refl _), ht, hs, hn, hx⟩

end Go.Proofs.Qxb6614317aFmt
