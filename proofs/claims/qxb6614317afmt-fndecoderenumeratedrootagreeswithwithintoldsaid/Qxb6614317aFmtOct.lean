/- octets. -/
import Derived.Test.Qxb6614317aFmtLen
namespace Go.Proofs.Qxb6614317aFmt
open Go.RowKit Go.Extern.Stop Go.Stop Go.Extern

theorem hide {p : Prop} (h : p) : Hid p := h

theorem alignS_mod {s : St} (h : (alignS s).bad = false) : (alignS s).n % 8 = 0 := by
  obtain ⟨n, bad⟩ := s
  unfold alignS at *
  by_cases hc : bad = false ∧ 0 < n % 8
  · rw [if_pos hc]; show (n + (8 - n % 8)) % 8 = 0; omega
  · rw [if_neg hc] at h ⊢
    have h' : bad = false := h
    show n % 8 = 0
    rcases Nat.eq_zero_or_pos (n % 8) with h0 | h0
    · exact h0
    · exact absurd ⟨h', h0⟩ hc

/-- octets: what is read, and the state behind it. -/
def ocV (xs : List Int) (s : St) (k : Nat) : List Int := if (alignS s).bad = true ∨ xs.length < (alignS s).n / 8 + k then [] else (xs.drop ((alignS s).n / 8)).take k
def ocS (xs : List Int) (s : St) (k : Nat) : St := if (alignS s).bad = true then alignS s else if xs.length < (alignS s).n / 8 + k then ⟨(alignS s).n, true⟩ else ⟨(alignS s).n + 8 * k, false⟩

/-- A slice that reads as these bytes. -/
def Reads (w : World) (b : Nat) (v : Value) (ys : List Int) : Prop :=
  ∃ ab c, v = .slice ab ys.length c ∧ (0 < ys.length → ∃ x : Addr, ab = some x ∧ x.block < b ∧ ∀ j u, (bc ys)[j]? = some u → w.cell? (x.add j) = some u)

theorem Reads.below {w w' : World} {b : Nat} {v : Value} {ys : List Int} (h : Reads w b v ys) (hb : Below b w w') : Reads w' b v ys := by
  obtain ⟨ab, c, hv, h⟩ := h
  refine ⟨ab, c, hv, fun h0 => ?_⟩
  obtain ⟨x, h1, h2, h3⟩ := h h0
  exact ⟨x, h1, h2, fun j u hj => by
    have hbk : (x.add j).block < b := by
      have : (x.add j).block = x.block := by unfold Addr.add; split <;> rfl
      rw [this]; exact h2
    rw [hb.cell hbk]; exact h3 j u hj⟩

theorem bc_piece (xs : List Int) (o k j : Nat) (u : Value) (h : (bc (List.take k (List.drop o xs)))[j]? = some u) : (bc xs).toArray[o + j]? = some u := by
  unfold bc at *
  rw [List.getElem?_map] at h
  rw [List.getElem?_toArray, List.getElem?_map]
  by_cases hj : j < k
  · rw [List.getElem?_take_of_lt hj, List.getElem?_drop] at h
    exact h
  · rw [List.getElem?_eq_none (by simp; omega)] at h
    cases h

set_option maxHeartbeats 1000000 in
theorem octets_any {F : Interp} {w : World} {b : Nat} {a : Option Addr} {xs : List Int} {s : St} (k : Nat) (hk : k ≤ 8) (hD : D F w b a xs s) :
    Calls Tryf.prog 38 #[.pointer (some ⟨b, 0, none⟩), .int .i64 k] w fun e w' => ∃ v, e = .returned v ∧ Reads w' b v (ocV xs s k) ∧ D F w' b a xs (ocS xs s k) ∧ Below b w w' := by
  have H : Hid (D F w b a xs s) := hD
  have hmod : (alignS s).bad = false → (alignS s).n % 8 = 0 := alignS_mod
  clear hD
  unfold ocV ocS
  obtain ⟨s1, hs1⟩ : ∃ s1, s1 = alignS s := ⟨_, rfl⟩
  rw [← hs1] at hmod ⊢
  have E1 : Hid (s1 = alignS s) := hs1
  clear hs1
  have A1 := align_any H.out
  rw [← E1.out] at A1
  have HA := hide A1
  clear A1 E1 H
  obtain ⟨m, bad⟩ := s1
  cases bad with
  | true =>
    clear hmod
    rw [if_pos (.inl rfl), if_pos rfl]
    go_enter Tryf.func38, Tryf.ntmps38
    go_wp2_with fail
    refine HA.out.mono ?_
    rintro e w1 ⟨rfl, hD1, hb1⟩
    obtain ⟨_, _, ⟨er, h2, ⟨p, rfl⟩⟩, _⟩ := hD1.cells
    have HD1 : Hid (D F w1 b a xs ⟨m, true⟩) := hD1
    have HB1 : Hid (Below b w w1) := hb1
    clear hD1 hb1 HA
    go_wp2_with fail
    go_ret
    exact ⟨_, rfl, ⟨none, 0, rfl, fun h => by simp at h⟩, HD1.out, HB1.out⟩
  | false =>
    have hm : m % 8 = 0 := hmod rfl
    have hm' : (m : Int) % 8 = 0 := by omega
    clear hmod
    by_cases hc : xs.length < m / 8 + k
    · have e1 : ((⟨m, false⟩ : St).bad = true ∨ xs.length < (⟨m, false⟩ : St).n / 8 + k) := .inr hc
      rw [if_pos e1, if_neg (by simp), if_pos (by exact hc)]
      clear e1
      have hc' : (xs.length : Int) < (m : Int) / 8 + k := by omega
      go_enter Tryf.func38, Tryf.ntmps38
      go_wp2_with fail
      refine HA.out.mono ?_
      rintro e w1 ⟨rfl, hD1, hb1⟩
      obtain ⟨h0, h1, ⟨er, h2, he⟩, _⟩ := hD1.cells
      have he' : er = .nilIface := he
      subst he'
      have hfit : m ≤ 8 * xs.length := hD1.fit
      have hsm := hD1.small
      have HD1 : Hid (D F w1 b a xs ⟨m, false⟩) := hD1
      have HB1 : Hid (Below b w w1) := hb1
      clear hD1 hb1 HA he
      go_wp2_with fail
      go_quiet (fail)
      go_wp2_with fail
      refine (cutShort_any (HD1.out.drewN _)).mono ?_
      rintro e w2 ⟨rfl, hD2, hb2⟩
      have HD2 : Hid (D F w2 b a xs ⟨m, true⟩) := hD2
      have HB2 : Hid (Below b w w2) := (bdN HB1.out _).trans hb2
      clear hD2 hb2
      go_wp2_with fail
      go_ret
      exact ⟨_, rfl, ⟨none, 0, rfl, fun h => by simp at h⟩, HD2.out, HB2.out⟩
    · have e1 : ¬ ((⟨m, false⟩ : St).bad = true ∨ xs.length < (⟨m, false⟩ : St).n / 8 + k) := by
        rintro (h | h)
        · cases h
        · exact hc h
      rw [if_neg e1, if_neg (by simp), if_neg (by exact hc)]
      clear e1
      have hc' : (m : Int) / 8 + k ≤ (xs.length : Int) := by omega
      have hc0 : (m : Int) / 8 ≤ (xs.length : Int) := by omega
      go_enter Tryf.func38, Tryf.ntmps38
      go_wp2_with fail
      refine HA.out.mono ?_
      rintro e w1 ⟨rfl, hD1, hb1⟩
      obtain ⟨h0, h1, ⟨er, h2, he⟩, hf1, _⟩ := hD1.cells
      have he' : er = .nilIface := he
      subst he'
      have hfit : m ≤ 8 * xs.length := hD1.fit
      have hsm := hD1.small
      have HD1 : Hid (D F w1 b a xs ⟨m, false⟩) := hD1
      have HB1 : Hid (Below b w w1) := hb1
      clear hD1 hb1 HA he
      have hcast : Hid (((m + 8 * k : Nat) : Int) = (m : Int) + 8 * k) := by show _ = _; omega
      by_cases hz : xs.length = m / 8
      · have hk0 : k = 0 := by omega
        subst hk0
        have hz' : m / 8 = xs.length := hz.symm
        clear hz
        go_wp2_with fail
        go_quiet (fail)
        go_wp2_with fail
        go_quiet (fail)
        go_wp2_with fail
        go_ret
        refine ⟨_, rfl, ?_, ?_, ?_⟩
        · refine ⟨_, _, rfl, fun h => ?_⟩
          simp at h
        · exact (HD1.out.drewN _).setN _ (by omega)
        · exact (bdN HB1.out _).setCell (Nat.le_refl _) _
      · rcases HD1.out.data with ⟨_, hx⟩ | ⟨g, hg, rfl, hh⟩
        · exfalso; subst hx; simp at hc hz hfit; omega
        have hz' : ¬ xs.length = m / 8 := hz
        go_wp2_with fail
        go_quiet (fail)
        go_wp2_with fail
        go_quiet (fail)
        go_wp2_with fail
        go_ret
        rw [← hcast.out]
        have hl : (List.take k (List.drop (m / 8) xs)).length = m / 8 + k - m / 8 := by simp; omega
        refine ⟨_, rfl, ⟨some ⟨g, m / 8, none⟩, xs.length - m / 8, by rw [hl]; rfl, fun _ => ⟨_, rfl, hg, fun j u hj => ?_⟩⟩, ?_, ?_⟩
        · have hb2 : ∀ q, Below b w1 ((w1.drewN q).setCell ⟨b, 1, none⟩ (.int .i64 ((m + 8 * k : Nat) : Int))) := fun q => (bdN (Below.refl b w1) q).setCell (Nat.le_refl _) _
          rw [Addr.add_lit]
          refine ((hb2 _).cell (p := ⟨g, m / 8 + j, none⟩) hg).trans ?_
          rw [cell_of_heap hh]
          exact bc_piece xs (m / 8) k j u hj
        · exact (HD1.out.drewN _).setN _ (by omega)
        · exact (bdN HB1.out _).setCell (Nat.le_refl _) _

end Go.Proofs.Qxb6614317aFmt
