/- zzChunkValue: the same bits, read by pieces of octets. -/
import Derived.Test.Qxb6614317aFmtZz
import Derived.Test.Qxb6614317aFmtPlainB
namespace Go.Proofs.Qxb6614317aFmt
open Go.RowKit Go.Extern.Stop Go.Stop Go.Extern

theorem chunk_any {w : World} {g : Nat} {xs : List Int} (n k : Nat) (hk : k ≤ 64) (h : n + k ≤ 8 * xs.length) (hs : xs.length ≤ 1048576) (hb : ∀ x ∈ xs, 0 ≤ x ∧ x ≤ 255)
    (hc : ∀ i, i < xs.length → w.cell? ⟨g, i, none⟩ = some (.int .u8 (xs.getD i 0))) :
    Calls Tryf.prog 15 #[.slice (some ⟨g, 0, none⟩) xs.length xs.length, .int .i64 n, .int .i64 k] w fun e w' => e = .returned (.int .u64 (rd xs n k)) ∧ w = w' := by
  have HB : Hid (∀ x ∈ xs, 0 ≤ x ∧ x ≤ 255) := hb
  have HC : Hid (∀ i, i < xs.length → w.cell? ⟨g, i, none⟩ = some (.int .u8 (xs.getD i 0))) := hc
  clear hb hc
  go_enter Tryf.func15, Tryf.ntmps15
  go_wp2
  go_loop [1, 7, 8] (fun pos v left => ∃ j : Nat, j ≤ k ∧ pos = .int .i64 ((n : Int) + j) ∧ v = .int .u64 (rd xs n j) ∧ left = .int .i64 ((k : Int) - j)) (fun _ _ left => (intOf left).toNat)
  case atStart => exact ⟨0, by omega, by go_num, rfl, by go_num⟩
  case round =>
    obtain ⟨j, hj, rfl, rfl, rfl⟩ := hrel
    by_cases hlt : j < k
    · have hc := HC.out ((n + j) / 8) (by omega)
      have hi : ((n : Int) + j) / 8 < (xs.length : Int) := by omega
      by_cases ht : (k : Int) - j < 8 - ((n : Int) + j) % 8
      · go_wp2
        go_round
        case rel =>
          have e := piece_value xs n j (k - j) HB.out (by omega) (by omega)
          exact ⟨k, by omega, by go_num, by rw [e, show j + (k - j) = k from by omega], by go_num⟩
        case measure => simp [intOf]; omega
      · go_wp2
        go_round
        case rel =>
          have e := piece_value xs n j (8 - (n + j) % 8) HB.out (by omega) (by omega)
          rw [Nat.sub_self, Int.pow_zero, Int.ediv_one] at e
          exact ⟨j + (8 - (n + j) % 8), by omega, by go_num, by rw [e], by go_num⟩
        case measure => simp [intOf]; omega
    · go_wp2
      go_ret
      have e : j = k := by omega
      subst e
      exact ⟨rfl, rfl⟩

theorem chunk_zero {w : World} (a : Option Addr) (L n : Nat) :
    Calls Tryf.prog 15 #[.slice a L L, .int .i64 n, .int .i64 0] w fun e w' => e = .returned (.int .u64 0) ∧ w = w' := by
  go_enter Tryf.func15, Tryf.ntmps15
  go_wp2
  go_loop [1, 7, 8] (fun _ v left => v = .int .u64 0 ∧ left = .int .i64 0) (fun _ _ _ => 0)
  case atStart => exact ⟨rfl, rfl⟩
  case round =>
    obtain ⟨rfl, rfl⟩ := hrel
    go_wp2
    go_ret
    exact ⟨rfl, rfl⟩

/-- zzChunkValue at a decoder's data. -/
theorem chunk_data {F : Interp} {w : World} {b : Nat} {a : Option Addr} {xs : List Int} {s : St} (n k : Nat) (hk : k ≤ 64) (h : n + k ≤ 8 * xs.length) (hD : D F w b a xs s) :
    Calls Tryf.prog 15 #[.slice a xs.length xs.length, .int .i64 n, .int .i64 k] w fun e w' => e = .returned (.int .u64 (rd xs n k)) ∧ w = w' := by
  by_cases h0 : 0 < xs.length
  · obtain ⟨g, rfl, hc⟩ := hD.cellAt h0
    exact chunk_any n k hk h hD.small hD.bytes hc
  · obtain rfl : k = 0 := by omega
    exact chunk_zero a xs.length n

end Go.Proofs.Qxb6614317aFmt
