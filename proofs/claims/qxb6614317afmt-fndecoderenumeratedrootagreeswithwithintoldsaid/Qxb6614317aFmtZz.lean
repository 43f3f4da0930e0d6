/- The thin functions of zzexport.go: a new decoder; its bits, count and fault. -/
import Derived.Test.Qxb6614317aFmtClone
namespace Go.Proofs.Qxb6614317aFmt
open Go.RowKit Go.Extern.Stop Go.Stop Go.Extern

theorem new_any {F : Interp} {w : World} {a : Option Addr} {xs : List Int} {n L : Nat} {N : Int} (hN : N = n) (hL : L = xs.length) (hd : Data w w.heap.size a xs) (ht : F.answers w.tape) (hs : xs.length ≤ 1048576) (hn : n ≤ 8 * xs.length) (hx : ∀ x ∈ xs, 0 ≤ x ∧ x ≤ 255) :
    Calls Tryf.prog 11 #[.slice a L L, .int .i64 N] w fun e w' => e = .returned (.pointer (some ⟨w.heap.size, 0, none⟩)) ∧ D F w' w.heap.size a xs ⟨n, false⟩ ∧ Below w.heap.size w w' := by
  subst hN
  subst hL
  have H : Hid (D F (w.alloc (.cells #[.slice a xs.length xs.length, .int .i64 n, .nilIface] 44)) w.heap.size a xs ⟨n, false⟩) := D.mk' hd ht hs hn hx
  clear hd ht hs hn hx
  go_enter Tryf.func11, Tryf.ntmps11
  go_wp2
  go_ret
  exact ⟨rfl, H.out, (Below.refl _ w).alloc (Nat.le_refl _) _⟩

section
variable {F : Interp} {w : World} {b : Nat} {a : Option Addr} {xs : List Int} {s : St} {n : Nat}

theorem zbits_any {K : Int} (k : Nat) (hK : K = k) (hk : k ≤ 64) (hD : D F w b a xs s) :
    Calls Tryf.prog 12 #[.pointer (some ⟨b, 0, none⟩), .int .i64 K] w fun e w' => e = .returned (.int .u64 (bitsV xs s k)) ∧ D F w' b a xs (bitsS xs s k) ∧ Below b w w' := by
  subst hK
  have H : Hid (D F w b a xs s) := hD
  clear hD
  go_enter Tryf.func12, Tryf.ntmps12
  go_wp2_with (go_at_call 26; refine (bits_any k hk H.out).mono ?_; rintro e w1 ⟨rfl, hD1, hb⟩)
  go_ret
  exact ⟨rfl, hD1, hb⟩

theorem bitsV_go {k : Nat} (h : n + k ≤ 8 * xs.length) : bitsV xs ⟨n, false⟩ k = rd xs n k := by
  rw [bitsV, if_neg]; simp; omega
theorem bitsS_go {k : Nat} (h : n + k ≤ 8 * xs.length) : bitsS xs ⟨n, false⟩ k = ⟨n + k, false⟩ := by
  simp only [bitsS]; rw [if_neg (by simp), if_neg (by omega)]
theorem bitsV_cut {k : Nat} (h : 8 * xs.length < n + k) : bitsV xs ⟨n, false⟩ k = 0 := by simp [bitsV, h]
theorem bitsS_cut {k : Nat} (h : 8 * xs.length < n + k) : bitsS xs ⟨n, false⟩ k = ⟨n, true⟩ := by simp [bitsS, h]
theorem bitsV_bad {k : Nat} : bitsV xs ⟨n, true⟩ k = 0 := by simp [bitsV]
theorem bitsS_bad {k : Nat} : bitsS xs ⟨n, true⟩ k = ⟨n, true⟩ := by simp [bitsS]

theorem zbits_go {K : Int} (k : Nat) (hK : K = k) (hk : k ≤ 64) (h : n + k ≤ 8 * xs.length) (hD : D F w b a xs ⟨n, false⟩) :
    Calls Tryf.prog 12 #[.pointer (some ⟨b, 0, none⟩), .int .i64 K] w fun e w' => e = .returned (.int .u64 (rd xs n k)) ∧ D F w' b a xs ⟨n + k, false⟩ ∧ Below b w w' := by
  have := zbits_any (K := K) k hK hk hD
  rwa [bitsV_go h, bitsS_go h] at this
theorem zbits_cut {K : Int} (k : Nat) (hK : K = k) (hk : k ≤ 64) (h : 8 * xs.length < n + k) (hD : D F w b a xs ⟨n, false⟩) :
    Calls Tryf.prog 12 #[.pointer (some ⟨b, 0, none⟩), .int .i64 K] w fun e w' => e = .returned (.int .u64 0) ∧ D F w' b a xs ⟨n, true⟩ ∧ Below b w w' := by
  have := zbits_any (K := K) k hK hk hD
  rwa [bitsV_cut h, bitsS_cut h] at this
theorem zbits_bad {K : Int} (k : Nat) (hK : K = k) (hk : k ≤ 64) (hD : D F w b a xs ⟨n, true⟩) :
    Calls Tryf.prog 12 #[.pointer (some ⟨b, 0, none⟩), .int .i64 K] w fun e w' => e = .returned (.int .u64 0) ∧ D F w' b a xs ⟨n, true⟩ ∧ Below b w w' := by
  have := zbits_any (K := K) k hK hk hD
  rwa [bitsV_bad, bitsS_bad] at this

theorem zn_any (hD : D F w b a xs s) :
    Calls Tryf.prog 13 #[.pointer (some ⟨b, 0, none⟩)] w fun e w' => e = .returned (.int .i64 s.n) ∧ w = w' := by
  obtain ⟨_, h1, _⟩ := hD.cells
  clear hD
  go_enter Tryf.func13, Tryf.ntmps13
  go_wp2
  go_ret
  exact ⟨rfl, rfl⟩

theorem neq_nil {bad : Bool} {er : Value} (h : ErrOf bad er) (w : World) : (binOp .neq 31 er .nilIface).run Tryf.prog w = .ok (.bool bad) w := by
  cases bad with
  | false =>
    have h' : er = .nilIface := h
    subst h'
    rfl
  | true =>
    obtain ⟨p, rfl⟩ := h
    rfl

theorem guard_nil {bad : Bool} {er : Value} (h : ErrOf bad er) (w : World) (o : Operand) (v : Value) : (eqGuard .neq 31 o (.const v) er .nilIface).run Tryf.prog w = .ok () w := by
  cases bad with
  | false =>
    have h' : er = .nilIface := h
    subst h'
    simp [eqGuard]
  | true =>
    obtain ⟨p, rfl⟩ := h
    rfl

/-- The fault, and what a test against nil makes of it. -/
theorem zerr_any (hD : D F w b a xs s) :
    Calls Tryf.prog 14 #[.pointer (some ⟨b, 0, none⟩)] w fun e w' => ∃ er, e = .returned er ∧ (∀ W, (binOp .neq 31 er .nilIface).run Tryf.prog W = .ok (.bool s.bad) W) ∧ (∀ W o v, (eqGuard .neq 31 o (.const v) er .nilIface).run Tryf.prog W = .ok () W) ∧ w = w' := by
  obtain ⟨_, _, ⟨er, h2, he⟩, _⟩ := hD.cells
  have HE : Hid (ErrOf s.bad er) := he
  clear hD he
  go_enter Tryf.func14, Tryf.ntmps14
  go_wp2
  go_ret
  exact ⟨er, rfl, neq_nil HE.out, guard_nil HE.out, rfl⟩

end
end Go.Proofs.Qxb6614317aFmt
