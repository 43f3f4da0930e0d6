/- 'append(whole, src...)' within the capacity of a row that the call made, src whatever; 'make([]byte, 0, n)'. -/
import Derived.Test.Qxb6614317aFmtZz
import Derived.Deep.AppendSrc
namespace Go.Proofs.Qxb6614317aFmt
open Go.RowKit Go.Extern.Stop Go.Stop Go.Extern

/-- The row behind an append at k. -/
def laid (cur : List Value) (k : Nat) (news : List Value) : List Value := cur.take k ++ news ++ cur.drop (k + news.length)
theorem laid_length (cur news : List Value) (k : Nat) (h : k + news.length ≤ cur.length) : (laid cur k news).length = cur.length := by simp [laid]; omega

theorem run_append_row (w : World) (ty : TypeId) (g sLen sCap n : Nat) (x : Value) (news : List Value) (hs : Src Tryf.prog 1 22 x n news w) (hroom : sLen + n ≤ sCap) (cur : List Value)
    (hg : w.heap[g]? = some (.cells cur.toArray 5 (0, 0))) (hfit : sLen + news.length ≤ cur.length) :
    (Builtin.append_ #[22, 22] ty #[.slice (some ⟨g, 0, none⟩) sLen sCap, x]).run Tryf.prog w = .ok (.slice (some ⟨g, 0, none⟩) (sLen + n) sCap) (w.setRow g (laid cur sLen news).toArray) := by
  have ht : Tryf.prog.underlying 22 = some (.slice 5) := Tryf.underlying22
  obtain ⟨i, hi, hsz⟩ := Option.map_eq_some_iff.1 info5s
  have hst := run_storeCells_at Tryf.prog g sLen 5 news 0 cur.toArray w hg (by simpa using hfit) hs.one
  simp only [Nat.add_zero] at hst
  have hcs := hs.cells
  simp [Builtin.append_, run_underlying ht, sizeOf, typeInfo, hi, hsz, hs.len, hroom, hcs, Addr.add_lit, hst, laid]

theorem IsRow.src {w : World} {a : Option Addr} {len cap : Nat} {zs : List Int} (h : IsRow .u8 w a len cap zs) (w' : World) (hb : ∀ p v, w.cell? p = some v → w'.cell? p = some v) : Src Tryf.prog 1 22 (.slice a len cap) len (bc (zs.take len)) w' := by
  have hl := h.lens.2
  rcases h with ⟨rfl, rfl, rfl, rfl⟩ | ⟨x, rfl, h1, h2, hz, hc, hwf⟩
  · exact Src.ofNil w' Tryf.underlying22 0
  · exact Src.ofSlice w' Tryf.underlying22 x len cap (bc (zs.take len)) (by rw [bc_length, hl]; simp) (fun j u hj => hb _ _ (IsRow.cells h1 hz hc j u hj)) (bc_one _)

theorem IsRow.bytes {w : World} {a : Option Addr} {len cap : Nat} {zs : List Int} (h : IsRow .u8 w a len cap zs) : ∀ x ∈ zs.take len, 0 ≤ x ∧ x ≤ 255 := by
  rcases h with ⟨_, _, _, rfl⟩ | ⟨x, _, _, _, _, _, hwf⟩
  · simp
  · exact fun x hx => byte_wf (hwf x (List.mem_of_mem_take hx))

theorem Data.src {w : World} {b : Nat} {a : Option Addr} {xs : List Int} (h : Data w b a xs) : Src Tryf.prog 1 22 (.slice a xs.length xs.length) xs.length (bc xs) w := by
  rcases h with ⟨rfl, rfl⟩ | ⟨g, _, rfl, hh⟩
  · exact Src.ofNil w Tryf.underlying22 0
  · refine Src.ofSlice w Tryf.underlying22 _ xs.length xs.length (bc xs) (by rw [bc_length]; simp) (fun j u hj => ?_) (bc_one _)
    have : (⟨g, 0, none⟩ : Addr).add j = ⟨g, j, none⟩ := by rw [Addr.add_lit, Nat.zero_add]
    rw [this, cell_of_heap hh]
    simpa using hj

theorem laid3 (Z A B C : List Value) (hZ : Z.length = A.length + B.length + C.length) : laid (laid (laid Z 0 A) A.length B) (A.length + B.length) C = A ++ B ++ C := by
  have e1 : laid Z 0 A = A ++ Z.drop A.length := by simp [laid]
  have e2 : laid (A ++ Z.drop A.length) A.length B = A ++ B ++ Z.drop (A.length + B.length) := by
    unfold laid
    rw [List.take_left, List.drop_append]
    simp
  rw [e1, e2]
  unfold laid
  have e3 : (A ++ B ++ Z.drop (A.length + B.length)).take (A.length + B.length) = A ++ B := by
    rw [show A.length + B.length = (A ++ B).length by simp, List.take_left]
  have e4 : (A ++ B ++ Z.drop (A.length + B.length)).drop (A.length + B.length + C.length) = [] := by
    apply List.drop_eq_nil_of_le; simp; omega
  rw [e3, e4, List.append_nil]

theorem bc_append (a b : List Int) : bc (a ++ b) = bc a ++ bc b := by simp [bc]

/-- 'make([]byte, 0, p + l + q)'. -/
theorem run_make3 (p l q : Nat) (h : p + l + q ≤ 1048576) (W : World) : (Instr.makeSlice 22 (.int .i64 0) (.int .i64 ((p : Int) + l + q))).run Tryf.prog W =
    .ok (.slice (some ⟨W.heap.size, 0, none⟩) 0 (p + l + q)) (W.alloc (.cells (madeCells #[Value.int .u8 0] (p + l + q)) 5)) := by
  obtain ⟨i, hi, hz, hs, hb⟩ := info_parts info5
  have hr := run_make (P := Tryf.prog) W 22 5 i (.int .u8 0) Tryf.underlying22 hi hz .i64 .i64 0 ((p : Int) + l + q) (by omega) (by omega) (by rw [hb]; omega) (by omega)
  have e : ((p : Int) + l + q).toNat = p + l + q := by omega
  rw [hr, e, hs]
  simp
  rfl

/-- An append whose run is known, as a law for the walk. -/
theorem wpList_append_run {w w' : World} {ops : Array Oper} {rest : List Oper} {o : Oper} {a : Act} {Q : Exit → Act → World → Prop}
    (hg : o.guard = none) (s x : Operand) (hop : o.op = Op.call { callee := Callee.builtin Builtin.append, args := #[s, x], argTypes := #[22, 22] })
    (vs vx vr : Value) (hrun : ∀ ty, (Builtin.append_ #[22, 22] ty #[vs, vx]).run Tryf.prog w = .ok vr w') (hs : a.eval s = vs) (hx : a.eval x = vx)
    (hK : wpList Tryf.prog ops Q rest (a.put o.dst vr) w') : wpList Tryf.prog ops Q (o :: rest) a w := by
  refine wpList_plain hg fun K hK' => ?_
  have h := hrun o.type
  unfold Oper.wp
  simp only [execOp, hop, resolve, invoke, builtin]
  simp [hs, hx, h, Result.andThen]
  exact hK' _ _ hK

theorem below_row {B g : Nat} {w0 w : World} (hb : Below B w0 w) (hBg : B ≤ g) (cs : Array Value) : Below B w0 (w.setRow g cs) :=
  hb.trans ⟨rfl, rfl, rfl, by simp [World.setRow], fun k hk => setRow_other w g k cs (by omega)⟩

/-- 'whole := make(..); whole = append(whole, pre...)', and so with data and tail: what each operation does, and the row behind them. -/
theorem whole_runs {w w1 : World} {aP aX aT : Option Addr} {capP capT : Nat} {pre xs tl : List Int}
    (hP : ∀ w' : World, (∀ p v, w.cell? p = some v → w'.cell? p = some v) → Src Tryf.prog 1 22 (.slice aP pre.length capP) pre.length (bc pre) w')
    (hT : ∀ w' : World, (∀ p v, w.cell? p = some v → w'.cell? p = some v) → Src Tryf.prog 1 22 (.slice aT tl.length capT) tl.length (bc tl) w')
    (hC : Clones w w1 aX xs) (hs : pre.length + xs.length + tl.length ≤ 1048576) :
    ∃ M c1 c2 c3 : Array Value,
      (∀ W : World, (Instr.makeSlice 22 (.int .i64 0) (.int .i64 ((pre.length : Int) + xs.length + tl.length))).run Tryf.prog W = .ok (.slice (some ⟨W.heap.size, 0, none⟩) 0 (pre.length + xs.length + tl.length)) (W.alloc (.cells M 5))) ∧
      (∀ ty, (Builtin.append_ #[22, 22] ty #[.slice (some ⟨w1.heap.size, 0, none⟩) 0 (pre.length + xs.length + tl.length), .slice aP pre.length capP]).run Tryf.prog (w1.alloc (.cells M 5)) =
        .ok (.slice (some ⟨w1.heap.size, 0, none⟩) pre.length (pre.length + xs.length + tl.length)) ((w1.alloc (.cells M 5)).setRow w1.heap.size c1)) ∧
      (∀ ty, (Builtin.append_ #[22, 22] ty #[.slice (some ⟨w1.heap.size, 0, none⟩) pre.length (pre.length + xs.length + tl.length), .slice aX xs.length xs.length]).run Tryf.prog ((w1.alloc (.cells M 5)).setRow w1.heap.size c1) =
        .ok (.slice (some ⟨w1.heap.size, 0, none⟩) (pre.length + xs.length) (pre.length + xs.length + tl.length)) (((w1.alloc (.cells M 5)).setRow w1.heap.size c1).setRow w1.heap.size c2)) ∧
      (∀ ty, (Builtin.append_ #[22, 22] ty #[.slice (some ⟨w1.heap.size, 0, none⟩) (pre.length + xs.length) (pre.length + xs.length + tl.length), .slice aT tl.length capT]).run Tryf.prog (((w1.alloc (.cells M 5)).setRow w1.heap.size c1).setRow w1.heap.size c2) =
        .ok (.slice (some ⟨w1.heap.size, 0, none⟩) (pre.length + xs.length + tl.length) (pre.length + xs.length + tl.length)) ((((w1.alloc (.cells M 5)).setRow w1.heap.size c1).setRow w1.heap.size c2).setRow w1.heap.size c3)) ∧
      Hid ((((((w1.alloc (.cells M 5)).setRow w1.heap.size c1).setRow w1.heap.size c2).setRow w1.heap.size c3).heap[w1.heap.size]? = some (.cells (bc (pre ++ xs ++ tl)).toArray 5 (0, 0)))) ∧
      Hid (Below w1.heap.size w1 ((((w1.alloc (.cells M 5)).setRow w1.heap.size c1).setRow w1.heap.size c2).setRow w1.heap.size c3)) := by
  obtain ⟨M, hM⟩ : ∃ M, M = madeCells #[Value.int .u8 0] (pre.length + xs.length + tl.length) := ⟨_, rfl⟩
  have hMs : M.toList.length = pre.length + xs.length + tl.length := by rw [Array.length_toList, hM, size_madeCells]
  have b0 : Below w1.heap.size w1 (w1.alloc (.cells M 5)) := (Below.refl _ w1).alloc (Nat.le_refl _) _
  have g0 : (w1.alloc (.cells M 5)).heap[w1.heap.size]? = some (.cells M.toList.toArray 5 (0, 0)) := by rw [Array.toArray_toList]; exact heap_alloc_new w1 _
  have old : ∀ {w' : World}, Below w1.heap.size w1 w' → ∀ p v, w.cell? p = some v → w'.cell? p = some v := fun hb p v h => cell_later (hC.below.trans (hb.mono hC.below.size)) h
  have l1 : (laid M.toList 0 (bc pre)).length = M.toList.length := laid_length _ _ _ (by rw [bc_length]; omega)
  have g1 := setRow_heap (w1.alloc (.cells M 5)) w1.heap.size _ (laid M.toList 0 (bc pre)).toArray 5 (0, 0) g0
  have b1 := below_row b0 (Nat.le_refl _) (laid M.toList 0 (bc pre)).toArray
  have l2 : (laid (laid M.toList 0 (bc pre)) pre.length (bc xs)).length = M.toList.length := by rw [laid_length _ _ _ (by rw [bc_length]; omega), l1]
  have g2 := setRow_heap _ w1.heap.size _ (laid (laid M.toList 0 (bc pre)) pre.length (bc xs)).toArray 5 (0, 0) g1
  have b2 := below_row b1 (Nat.le_refl _) (laid (laid M.toList 0 (bc pre)) pre.length (bc xs)).toArray
  have g3 := setRow_heap _ w1.heap.size _ (laid (laid (laid M.toList 0 (bc pre)) pre.length (bc xs)) (pre.length + xs.length) (bc tl)).toArray 5 (0, 0) g2
  have b3 := below_row b2 (Nat.le_refl _) (laid (laid (laid M.toList 0 (bc pre)) pre.length (bc xs)) (pre.length + xs.length) (bc tl)).toArray
  refine ⟨M, (laid M.toList 0 (bc pre)).toArray, (laid (laid M.toList 0 (bc pre)) pre.length (bc xs)).toArray, (laid (laid (laid M.toList 0 (bc pre)) pre.length (bc xs)) (pre.length + xs.length) (bc tl)).toArray, ?_, ?_, ?_, ?_, ?_, b3⟩
  · intro W; rw [hM]; exact run_make3 _ _ _ hs W
  · intro ty
    have h := run_append_row (w1.alloc (.cells M 5)) ty w1.heap.size 0 (pre.length + xs.length + tl.length) pre.length (.slice aP pre.length capP) (bc pre) (hP _ (old b0)) (by omega) M.toList g0 (by rw [bc_length]; omega)
    rw [Nat.zero_add] at h
    exact h
  · intro ty
    exact run_append_row _ ty w1.heap.size pre.length (pre.length + xs.length + tl.length) xs.length (.slice aX xs.length xs.length) (bc xs) (hC.data.below b1 (Nat.le_refl _)).src (by omega) _ g1 (by rw [bc_length, l1]; omega)
  · intro ty
    exact run_append_row _ ty w1.heap.size (pre.length + xs.length) (pre.length + xs.length + tl.length) tl.length (.slice aT tl.length capT) (bc tl) (hT _ (old b2)) (by omega) _ g2 (by rw [bc_length, l2]; omega)
  · have e := laid3 M.toList (bc pre) (bc xs) (bc tl) (by simp only [bc_length]; exact hMs)
    rw [bc_length, bc_length] at e
    show _ = _
    rw [bc_append, bc_append, ← e]
    exact g3

end Go.Proofs.Qxb6614317aFmt
