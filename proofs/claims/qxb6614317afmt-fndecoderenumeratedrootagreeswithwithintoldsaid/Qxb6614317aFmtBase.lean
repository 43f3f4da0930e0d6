/- The decoder in memory, as a predicate on worlds, and what keeps it. -/
import Derived.Test.Qxb6614317aFmtErr
import Derived.ProofKit
namespace Go.Proofs.Qxb6614317aFmt
open Go.RowKit Go.Extern.Stop Go.Stop Go.Extern

/-- What a decoder has come to: the bits read; has it met a fault? -/
structure St where
  n : Nat
  bad : Bool

/-- The cells of a row of bytes. -/
def bc (zs : List Int) : List Value := zs.map (Value.int .u8)
theorem bc_length (zs : List Int) : (bc zs).length = zs.length := by simp [bc]
theorem bc_one (zs : List Int) : ∀ v ∈ bc zs, v.oneCell' = true := by
  intro v hv
  obtain ⟨z, _, rfl⟩ := List.mem_map.1 hv
  rfl

/-- The octets that a decoder reads: a row that lies below block b, whole. -/
def Data (w : World) (b : Nat) (a : Option Addr) (xs : List Int) : Prop :=
  (a = none ∧ xs = []) ∨ ∃ g, g < b ∧ a = some ⟨g, 0, none⟩ ∧ w.heap[g]? = some (.cells (bc xs).toArray 5 (0, 0))

/-- A fault's value. -/
def ErrOf (bad : Bool) (er : Value) : Prop := if bad then ∃ p, er = .iface 62 (.pointer (some p)) else er = .nilIface

structure D (F : Interp) (w : World) (b : Nat) (a : Option Addr) (xs : List Int) (s : St) : Prop where
  blk : ∃ er, w.heap[b]? = some (.cells #[.slice a xs.length xs.length, .int .i64 s.n, er] 44 (0, 0)) ∧ ErrOf s.bad er
  data : Data w b a xs
  tape : F.answers w.tape
  small : xs.length ≤ 1048576
  fit : s.n ≤ 8 * xs.length
  bytes : ∀ x ∈ xs, 0 ≤ x ∧ x ≤ 255

section
variable {F : Interp} {w w' : World} {b : Nat} {a : Option Addr} {xs : List Int} {s : St}

theorem lt_of_heap {w : World} {b : Nat} {o : Obj} (h : w.heap[b]? = some o) : b < w.heap.size := (Array.getElem?_eq_some_iff.1 h).1

theorem D.lt (h : D F w b a xs s) : b < w.heap.size := by obtain ⟨er, h1, _⟩ := h.blk; exact lt_of_heap h1

theorem Data.below {B : Nat} (h : Data w b a xs) (hb : Below B w w') (hB : b ≤ B) : Data w' b a xs := by
  rcases h with h | ⟨g, h1, h2, h3⟩
  · exact .inl h
  · exact .inr ⟨g, h1, h2, by rw [hb.block g (by omega)]; exact h3⟩

theorem Data.mono {b' : Nat} (h : Data w b a xs) (hb : b ≤ b') : Data w b' a xs := by
  rcases h with h | ⟨g, h1, h2, h3⟩
  · exact .inl h
  · exact .inr ⟨g, by omega, h2, h3⟩

/-- Whatever leaves the blocks up to the decoder's own leaves the decoder. -/
theorem D.below {B : Nat} (h : D F w b a xs s) (hb : Below B w w') (hB : b < B) : D F w' b a xs s := by
  obtain ⟨er, h1, h2⟩ := h.blk
  exact ⟨⟨er, by rw [hb.block b hB]; exact h1, h2⟩, h.data.below hb (by omega), by rw [hb.tape]; exact h.tape, h.small, h.fit, h.bytes⟩

theorem D.alloc (h : D F w b a xs s) (o : Obj) : D F (w.alloc o) b a xs s := h.below ((Below.refl w.heap.size w).alloc (Nat.le_refl _) o) h.lt

theorem cell_of_heap {w : World} {b : Nat} {c : Array Value} {t : TypeId} (h : w.heap[b]? = some (.cells c t (0, 0))) (i : Nat) : w.cell? ⟨b, i, none⟩ = c[i]? := by
  simp [World.cell?, h]
theorem frozen_of_heap {w : World} {b : Nat} {c : Array Value} {t : TypeId} (h : w.heap[b]? = some (.cells c t (0, 0))) (i : Nat) : w.frozen? ⟨b, i, none⟩ = false := by
  simp [World.frozen?, h]

/-- What the walk wants of a decoder: its cells. -/
theorem D.cells (h : D F w b a xs s) : w.cell? ⟨b, 0, none⟩ = some (.slice a xs.length xs.length) ∧ w.cell? ⟨b, 1, none⟩ = some (.int .i64 s.n) ∧ (∃ er, w.cell? ⟨b, 2, none⟩ = some er ∧ ErrOf s.bad er) ∧ w.frozen? ⟨b, 1, none⟩ = false ∧ w.frozen? ⟨b, 2, none⟩ = false := by
  obtain ⟨er, h1, h2⟩ := h.blk
  refine ⟨by rw [cell_of_heap h1]; rfl, by rw [cell_of_heap h1]; rfl, ⟨er, by rw [cell_of_heap h1]; rfl, h2⟩, frozen_of_heap h1 _, frozen_of_heap h1 _⟩

theorem setCell_heap {w : World} {b i : Nat} {c : Array Value} {t : TypeId} (h : w.heap[b]? = some (.cells c t (0, 0))) (v : Value) : (w.setCell ⟨b, i, none⟩ v).heap[b]? = some (.cells (c.setIfInBounds i v) t (0, 0)) := by
  rw [setCell_eq_setRow w b i c t (0, 0) v h]
  exact setRow_heap w b c _ t _ h

/-- The count is stored anew. -/
theorem D.setN (h : D F w b a xs s) (m : Nat) (hm : m ≤ 8 * xs.length) : D F (w.setCell ⟨b, 1, none⟩ (.int .i64 m)) b a xs ⟨m, s.bad⟩ := by
  obtain ⟨er, h1, h2⟩ := h.blk
  have hb : Below b w (w.setCell ⟨b, 1, none⟩ (.int .i64 m)) := (Below.refl b w).setCell (Nat.le_refl _) _
  exact ⟨⟨er, by rw [setCell_heap h1]; rfl, h2⟩, h.data.below hb (Nat.le_refl _), by rw [hb.tape]; exact h.tape, h.small, hm, h.bytes⟩

/-- A fault is stored. -/
theorem D.setErr (h : D F w b a xs s) (p : Addr) : D F (w.setCell ⟨b, 2, none⟩ (.iface 62 (.pointer (some p)))) b a xs ⟨s.n, true⟩ := by
  obtain ⟨er, h1, h2⟩ := h.blk
  have hb : Below b w (w.setCell ⟨b, 2, none⟩ (.iface 62 (.pointer (some p)))) := (Below.refl b w).setCell (Nat.le_refl _) _
  exact ⟨⟨_, by rw [setCell_heap h1]; rfl, ⟨p, rfl⟩⟩, h.data.below hb (Nat.le_refl _), by rw [hb.tape]; exact h.tape, h.small, h.fit, h.bytes⟩

theorem bdN {B : Nat} {a w : World} (h : Below B a w) (k : Nat) : Below B a (w.drewN k) := h.trans ⟨rfl, rfl, rfl, Nat.le_refl _, fun _ _ => rfl⟩
theorem D.drewN (h : D F w b a xs s) (k : Nat) : D F (w.drewN k) b a xs s := by
  have hb : Below w.heap.size w (w.drewN k) := ⟨rfl, rfl, rfl, Nat.le_refl _, fun _ _ => rfl⟩
  exact h.below hb h.lt
theorem D.drew (h : D F w b a xs s) : D F w.drew b a xs s := h.below ((Below.refl w.heap.size w).drew) h.lt

end
end Go.Proofs.Qxb6614317aFmt
