/- normallySmall. -/
import Derived.Test.Qxb6614317aFmtOct
namespace Go.Proofs.Qxb6614317aFmt
open Go.RowKit Go.Extern.Stop Go.Stop Go.Extern

def nsBytes (ys : List Int) : List Int := List.replicate (8 - ys.length) 0 ++ ys
def nsV (xs : List Int) (s : St) : Int :=
  if boolV xs s = false then (bitsV xs (bitsS xs s 1) 6 : Int)
  else if 8 < lenV xs (bitsS xs s 1) then 0 else Lib.beZ (nsBytes (ocV xs (lenS xs (bitsS xs s 1)) (lenV xs (bitsS xs s 1))))
def nsS (xs : List Int) (s : St) : St :=
  if boolV xs s = false then bitsS xs (bitsS xs s 1) 6
  else if 8 < lenV xs (bitsS xs s 1) then ⟨(lenS xs (bitsS xs s 1)).n, true⟩ else ocS xs (lenS xs (bitsS xs s 1)) (lenV xs (bitsS xs s 1))

theorem ocV_length (xs : List Int) (s : St) (k : Nat) : (ocV xs s k).length ≤ k := by
  unfold ocV
  split <;> simp
  omega

theorem norm_no {F : Interp} {w : World} {b : Nat} {a : Option Addr} {xs : List Int} {s : St} (hv : boolV xs s = false) (hD : D F w b a xs s) :
    Calls Tryf.prog 33 #[.pointer (some ⟨b, 0, none⟩)] w fun e w' => e = .returned (.int .u64 (bitsV xs (bitsS xs s 1) 6)) ∧ D F w' b a xs (bitsS xs (bitsS xs s 1) 6) ∧ Below b w w' := by
  have H : Hid (D F w b a xs s) := hD
  clear hD
  go_enter Tryf.func33, Tryf.ntmps33
  go_wp2_with fail
  refine (bool_any H.out).mono ?_
  rintro e w1 ⟨rfl, hD1, hb1⟩
  have HD1 : Hid (D F w1 b a xs (bitsS xs s 1)) := hD1
  have HB1 : Hid (Below b w w1) := hb1
  clear hD1 hb1
  go_wp2_with fail
  refine (bits_any' 6 rfl (by omega) HD1.out).mono ?_
  rintro e w2 ⟨rfl, hD2, hb2⟩
  have HD2 : Hid (D F w2 b a xs (bitsS xs (bitsS xs s 1) 6)) := hD2
  have HB2 : Hid (Below b w w2) := HB1.out.trans hb2
  clear hD2 hb2
  go_wp2_with fail
  go_ret
  exact ⟨rfl, HD2.out, HB2.out⟩

theorem norm_big {F : Interp} {w : World} {b : Nat} {a : Option Addr} {xs : List Int} {s : St} (hv : boolV xs s = true) (hn : 8 < lenV xs (bitsS xs s 1)) (hD : D F w b a xs s) :
    Calls Tryf.prog 33 #[.pointer (some ⟨b, 0, none⟩)] w fun e w' => e = .returned (.int .u64 0) ∧ D F w' b a xs ⟨(lenS xs (bitsS xs s 1)).n, true⟩ ∧ Below b w w' := by
  have H : Hid (D F w b a xs s) := hD
  have hn' : 8 < (lenV xs (bitsS xs s 1) : Int) := by omega
  clear hD
  go_enter Tryf.func33, Tryf.ntmps33
  go_wp2_with fail
  refine (bool_any H.out).mono ?_
  rintro e w1 ⟨rfl, hD1, hb1⟩
  have HD1 : Hid (D F w1 b a xs (bitsS xs s 1)) := hD1
  have HB1 : Hid (Below b w w1) := hb1
  clear hD1 hb1
  go_wp2_with fail
  refine (length_any HD1.out).mono ?_
  rintro e w2 ⟨rfl, hD2, hb2⟩
  have HD2 : Hid (D F w2 b a xs (lenS xs (bitsS xs s 1))) := hD2
  have HB2 : Hid (Below b w w2) := HB1.out.trans hb2
  clear hD2 hb2
  go_wp2_with (go_at_call 31; refine (fail_any fm_number _ (HD2.out.alloc _) (errorf_number F _ _ _ (HD2.out.alloc _).tape (by simp [go_sem]; rfl))).mono ?_; rintro e w3 ⟨rfl, hD3, hb3⟩)
  go_ret
  exact ⟨rfl, hD3, HB2.out.trans (((Below.refl _ _).alloc (Nat.le_of_lt HD2.out.lt) _).trans hb3)⟩

theorem nsBytes_length {ys : List Int} (h : ys.length ≤ 8) : (nsBytes ys).length = 8 := by simp [nsBytes]; omega

def zero8 : Array Value := #[.int .u8 0, .int .u8 0, .int .u8 0, .int .u8 0, .int .u8 0, .int .u8 0, .int .u8 0, .int .u8 0]
theorem zero8_list : zero8.toList = List.replicate 8 (Value.int .u8 0) := rfl

/-- 'copy(v[8-len(b):], b)' into the array just made. -/
theorem copy_tail {w : World} {b : Nat} {ab : Option Addr} {c : Nat} {ys : List Int} (hl : ys.length ≤ 8) (h0 : 0 < ys.length) (hr : 0 < ys.length → ∃ x : Addr, ab = some x ∧ x.block < b ∧ ∀ j u, (bc ys)[j]? = some u → w.cell? (x.add j) = some u) :
    ∃ w4, (∀ ty, (Builtin.copy_ #[22, 22] ty #[.slice (some ⟨w.heap.size, 8 - ys.length, none⟩) ys.length ys.length, .slice ab ys.length c]).run Tryf.prog (w.alloc (.cells zero8 56)) = .ok (goInt ys.length) w4) ∧
      Hid (w4.heap[w.heap.size]? = some (.cells (bc (nsBytes ys)).toArray 56 (0, 0))) ∧ Hid (Below w.heap.size w w4) := by
  obtain ⟨x, rfl, _, hc⟩ := hr h0
  have b0 : Below w.heap.size w (w.alloc (.cells zero8 56)) := (Below.refl _ w).alloc (Nat.le_refl _) _
  have g0 : (w.alloc (.cells zero8 56)).heap[w.heap.size]? = some (.cells zero8 56 (0, 0)) := heap_alloc_new w _
  refine ⟨(w.alloc (.cells zero8 56)).setRow w.heap.size (bc (nsBytes ys)).toArray, fun ty => ?_, setRow_heap _ _ _ _ 56 (0, 0) g0, below_setRow b0 (Nat.le_refl _) _⟩
  have h := run_copy_row (P := Tryf.prog) (w.alloc (.cells zero8 56)) 22 22 ty 5 w.heap.size (8 - ys.length) ys.length ys.length x ys.length c zero8 56 (bc ys) Tryf.underlying22 info5s g0
    (by rw [bc_length]; exact (Nat.min_self _).symm) (fun j u hj => cell_later b0 (hc j u hj)) (by rw [bc_length]; show _ ≤ 8; omega) (bc_one ys)
  rw [h, bc_length]
  congr 3
  rw [zero8_list]
  have e1 : (List.replicate 8 (Value.int .u8 0)).take (8 - ys.length) = List.replicate (8 - ys.length) (Value.int .u8 0) := by rw [List.take_replicate]; congr 1; omega
  have e2 : (List.replicate 8 (Value.int .u8 0)).drop (8 - ys.length + ys.length) = [] := by apply List.drop_eq_nil_of_le; simp; omega
  rw [e1, e2]
  simp [bc, nsBytes]

theorem slice_tail (g : Nat) (L : Nat) (hL : L ≤ 8) (h0 : 0 < L) (W : World) : (Instr.sliceAt 56 (.pointer (some ⟨g, 0, none⟩)) (some (.int .i64 (8 - (L : Int)))) none none).run Tryf.prog W = .ok (.slice (some ⟨g, 8 - L, none⟩) L L) W := by
  have h1 : Tryf.prog.arrayLen 56 = 8 := by kernel_rfl
  have h2 : Tryf.prog.elem 56 = 5 := by kernel_rfl
  have ht : Tryf.prog.underlying 56 = some (.array (Tryf.prog.arrayLen 56) (Tryf.prog.elem 56)) := by rw [h1, h2]; exact Tryf.underlying56
  rw [run_sliceAt_array_l W 56 ⟨g, 0, none⟩ ht .i64 (8 - (L : Int)) (by omega) (by rw [h1]; omega), h1, h2]
  have e : (8 - (L : Int)).toNat = 8 - L := by omega
  have e3 : 8 - (8 - L) = L := by omega
  have hs : (sizeOf 5).run Tryf.prog W = .ok 1 W := Tryf.sizeOf5 W
  rw [hs, e]
  simp only [Result.andThen, slicedAt, e3]
  rw [if_neg (by omega), Addr.add_lit]
  simp

theorem u64_at {w4 : World} {g : Nat} {zs : List Int} (hg : w4.heap[g]? = some (.cells (bc zs).toArray 56 (0, 0))) (hl : zs.length = 8) (hb : ∀ z ∈ zs, (Lit.int .u8 z).wf = true) (W : World) (hW : W.heap = w4.heap) :
    Calls Tryf.prog 39 #[.agg #[], .slice (some ⟨g, 0, none⟩) 8 8] W fun e w' => e = .returned (.int .u64 (Lib.beZ zs)) ∧ Below W.heap.size W w' := by
  have h := Tryf.binary_BE_Uint64_z ⟨g, 0, none⟩ 8 8 zs W (Nat.le_refl _) (by omega) (fun i hi => by
    have e : W.heap[g]? = some (.cells (bc zs).toArray 56 (0, 0)) := by rw [hW]; exact hg
    rw [Addr.add_lit, Nat.zero_add, cell_of_heap e]
    simp [bc, hi]) hb
  rw [List.take_of_length_le (by omega)] at h
  exact h

set_option maxHeartbeats 1000000 in
theorem norm_oct {F : Interp} {w : World} {b : Nat} {a : Option Addr} {xs : List Int} {s : St} (hv : boolV xs s = true) (hn : lenV xs (bitsS xs s 1) ≤ 8) (hD : D F w b a xs s) :
    Calls Tryf.prog 33 #[.pointer (some ⟨b, 0, none⟩)] w fun e w' => e = .returned (.int .u64 (Lib.beZ (nsBytes (ocV xs (lenS xs (bitsS xs s 1)) (lenV xs (bitsS xs s 1)))))) ∧
      D F w' b a xs (ocS xs (lenS xs (bitsS xs s 1)) (lenV xs (bitsS xs s 1))) ∧ Below b w w' := by
  have H : Hid (D F w b a xs s) := hD
  have hyl := ocV_length xs (lenS xs (bitsS xs s 1)) (lenV xs (bitsS xs s 1))
  clear hD
  obtain ⟨k, hk⟩ : ∃ k, k = lenV xs (bitsS xs s 1) := ⟨_, rfl⟩
  rw [← hk] at hn hyl ⊢
  have EK : Hid (k = lenV xs (bitsS xs s 1)) := hk
  clear hk
  obtain ⟨ys, hys⟩ : ∃ ys, ys = ocV xs (lenS xs (bitsS xs s 1)) k := ⟨_, rfl⟩
  rw [← hys] at hyl ⊢
  have EY : Hid (ys = ocV xs (lenS xs (bitsS xs s 1)) k) := hys
  clear hys
  go_enter Tryf.func33, Tryf.ntmps33
  go_wp2_with fail
  refine (bool_any H.out).mono ?_
  rintro e w1 ⟨rfl, hD1, hb1⟩
  have HD1 : Hid (D F w1 b a xs (bitsS xs s 1)) := hD1
  have HB1 : Hid (Below b w w1) := hb1
  clear hD1 hb1
  go_wp2_with fail
  have C2 := length_any HD1.out
  rw [← EK.out] at C2
  refine C2.mono ?_
  clear C2
  rintro e w2 ⟨rfl, hD2, hb2⟩
  have HD2 : Hid (D F w2 b a xs (lenS xs (bitsS xs s 1))) := hD2
  have HB2 : Hid (Below b w w2) := HB1.out.trans hb2
  clear hD2 hb2
  go_wp2_with fail
  have C3 := octets_any k hn HD2.out
  rw [← EY.out] at C3
  refine C3.mono ?_
  clear C3
  rintro e w3 ⟨v, rfl, ⟨ab, c, rfl, hr⟩, hD3, hb3⟩
  have HD3 : Hid (D F w3 b a xs (ocS xs (lenS xs (bitsS xs s 1)) k)) := hD3
  have HB3 : Hid (Below b w w3) := HB2.out.trans hb3
  have HR := hide hr
  clear hD3 hb3 hr
  have hlt3 : b < w3.heap.size := HD3.out.lt
  have HZ : Hid (∀ z ∈ nsBytes ys, (Lit.int .u8 z).wf = true) := by
    have hby := HD3.out.bytes
    have hy := EY.out
    intro z hz
    have hz' : 0 ≤ z ∧ z ≤ 255 := by
      unfold nsBytes at hz
      rcases List.mem_append.1 hz with h | h
      · rw [List.eq_of_mem_replicate h]; omega
      · rw [hy] at h
        unfold ocV at h
        split at h
        · cases h
        · exact hby z (List.mem_of_mem_drop (List.mem_of_mem_take h))
    simp [Lit.wf, IntKind.min, IntKind.max, IntKind.signed, IntKind.bits]
    omega
  by_cases hy0 : ys.length = 0
  · obtain rfl : ys = [] := List.eq_nil_of_length_eq_zero hy0
    have hcp : ∀ (W : World) (ty : TypeId), (Builtin.copy_ #[22, 22] ty #[.slice (some ⟨w3.heap.size, 0, none⟩) 0 0, .slice ab 0 c]).run Tryf.prog W = .ok (goInt 0) W :=
      fun W ty => run_copy_none W 22 22 ty 5 _ _ 0 0 0 c Tryf.underlying22 info5s rfl
    have HG : Hid ((w3.alloc (.cells #[.int .u8 0, .int .u8 0, .int .u8 0, .int .u8 0, .int .u8 0, .int .u8 0, .int .u8 0, .int .u8 0] 56)).heap[w3.heap.size]? = some (.cells (bc (nsBytes [])).toArray 56 (0, 0))) := heap_alloc_new w3 _
    have HB : Hid (Below w3.heap.size w3 (w3.alloc (.cells #[.int .u8 0, .int .u8 0, .int .u8 0, .int .u8 0, .int .u8 0, .int .u8 0, .int .u8 0, .int .u8 0] 56))) := (Below.refl _ w3).alloc (Nat.le_refl _) _
    clear hy0
    go_wp2_with fail
    clear hcp
    generalize (w3.alloc (.cells #[.int .u8 0, .int .u8 0, .int .u8 0, .int .u8 0, .int .u8 0, .int .u8 0, .int .u8 0, .int .u8 0] 56)) = w4 at HG HB ⊢
    have HU := hide (u64_at HG.out (nsBytes_length (by decide)) HZ.out w4.drew rfl)
    go_region_with (go_at_call 39; refine HU.out.mono ?_; rintro e w5 ⟨rfl, hb5⟩)
    go_wp2_with fail
    go_ret
    have hlt4 : b < w4.heap.size := Nat.lt_of_lt_of_le hlt3 HB.out.size
    have hbW : Below w4.heap.size w4 w5 := (Below.refl w4.heap.size w4).drew.trans hb5
    exact ⟨rfl, (HD3.out.below HB.out hlt3).below hbW hlt4, HB3.out.trans ((HB.out.mono (Nat.le_of_lt hlt3)).trans (hbW.mono (Nat.le_of_lt hlt4)))⟩
  · have hy1 : ¬ 8 = 8 - ys.length := by omega
    obtain ⟨w4, hcp, HG, HB⟩ := copy_tail (c := c) (by omega) (by omega) HR.out
    have hsl := slice_tail w3.heap.size ys.length (by omega) (by omega)
    unfold zero8 at hcp
    go_wp2_with fail
    clear hcp hsl
    have HU := hide (u64_at HG.out (nsBytes_length (by omega)) HZ.out w4.drew rfl)
    go_region_with (go_at_call 39; refine HU.out.mono ?_; rintro e w5 ⟨rfl, hb5⟩)
    go_wp2_with fail
    go_ret
    have hlt4 : b < w4.heap.size := Nat.lt_of_lt_of_le hlt3 HB.out.size
    have hbW : Below w4.heap.size w4 w5 := (Below.refl w4.heap.size w4).drew.trans hb5
    exact ⟨rfl, (HD3.out.below HB.out hlt3).below hbW hlt4, HB3.out.trans ((HB.out.mono (Nat.le_of_lt hlt3)).trans (hbW.mono (Nat.le_of_lt hlt4)))⟩

theorem norm_any {F : Interp} {w : World} {b : Nat} {a : Option Addr} {xs : List Int} {s : St} (hD : D F w b a xs s) :
    Calls Tryf.prog 33 #[.pointer (some ⟨b, 0, none⟩)] w fun e w' => e = .returned (.int .u64 (nsV xs s)) ∧ D F w' b a xs (nsS xs s) ∧ Below b w w' := by
  unfold nsV nsS
  cases hv : boolV xs s with
  | false => rw [if_pos rfl, if_pos rfl]; exact norm_no hv hD
  | true =>
    have e0 : ¬ (true = false) := by simp
    rw [if_neg e0, if_neg e0]
    by_cases h : 8 < lenV xs (bitsS xs s 1)
    · rw [if_pos h, if_pos h]; exact norm_big hv h hD
    · rw [if_neg h, if_neg h]; exact norm_oct hv (by omega) hD

end Go.Proofs.Qxb6614317aFmt
