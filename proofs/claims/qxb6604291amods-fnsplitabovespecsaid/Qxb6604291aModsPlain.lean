/-
  PLAIN MATHEMATICS of the mark and the unit: lists of bytes, no Go in sight.
-/
import Derived.Lib.LastIndexLaws
import Derived.Lib.Strings
namespace Go.Proofs.Qxb6604291aMods.Cut

def mkB : List UInt8 := [95, 97, 98, 111, 118, 101, 95]
def unB : List UInt8 := [107, 95, 116, 111, 107, 101, 110, 115]

/-- m stands in s at i. -/
def At (s : List UInt8) (i : Nat) (m : List UInt8) : Prop := i + m.length ≤ s.length ∧ ∀ j, j < m.length → s[i + j]? = m[j]?

theorem at_of_occ {s m : List UInt8} {i : Nat} (hm : m ≠ []) (h : Lib.occAt s m i = true) : At s i m := by
  have h1 : i + m.length ≤ s.length := by
    rcases Lib.occAt_room h with h | h
    · exact h
    · exact absurd h hm
  refine ⟨h1, fun j hj => ?_⟩
  rw [Lib.occAt_iff_take s m i h1] at h
  have e := eq_of_beq h
  rw [← e, List.getElem?_take_of_lt hj, List.getElem?_drop]

theorem occ_of_at {s m : List UInt8} {i : Nat} (h : At s i m) : Lib.occAt s m i = true := by
  rw [Lib.occAt_iff_take s m i h.1]
  have e : (s.drop i).take m.length = m := by
    apply List.ext_getElem?
    intro j
    by_cases hj : j < m.length
    · rw [List.getElem?_take_of_lt hj, List.getElem?_drop, h.2 j hj]
    · rw [List.getElem?_eq_none (by rw [List.length_take]; omega), List.getElem?_eq_none (by omega)]
  rw [e]
  exact beq_self_eq_true m

/-- WHAT LastIndex ANSWERS at a text that is not empty. -/
theorem last_spec (s m : List UInt8) (hm : m ≠ []) :
    (Lib.lastIndex s m = -1 ∧ ∀ k, ¬ At s k m) ∨ ∃ i : Nat, Lib.lastIndex s m = (i : Int) ∧ At s i m ∧ ∀ k, i < k → ¬ At s k m := by
  unfold Lib.lastIndex
  by_cases hl : m.length ≤ s.length
  · rw [if_pos hl]
    rcases Lib.lastOcc_spec s m (s.length - m.length + 1) with ⟨h1, h2⟩ | ⟨i, h1, h2, h3, h4⟩
    · refine .inl ⟨h1, fun k hk => ?_⟩
      have := h2 k (by have := hk.1; omega)
      rw [occ_of_at hk] at this
      cases this
    · refine .inr ⟨i, h2, at_of_occ hm h3, fun k hik hk => ?_⟩
      have := h4 k hik (by have := hk.1; omega)
      rw [occ_of_at hk] at this
      cases this
  · rw [if_neg hl]
    exact .inl ⟨rfl, fun k hk => hl (by have := hk.1; omega)⟩

/-- s ends in m. -/
def EndsIn (s m : List UInt8) : Prop := m.length ≤ s.length ∧ At s (s.length - m.length) m

theorem ends_iff (s m : List UInt8) : Lib.hasSuffix s m = true ↔ EndsIn s m := by
  unfold Lib.hasSuffix
  rw [List.isSuffixOf_iff_suffix]
  constructor
  · rintro ⟨t, rfl⟩
    refine ⟨by simp, by simp, fun j hj => ?_⟩
    rw [List.length_append, List.getElem?_append_right (by omega)]
    congr 1
    omega
  · rintro ⟨h1, h2, h3⟩
    refine ⟨s.take (s.length - m.length), ?_⟩
    have e : s.drop (s.length - m.length) = m := by
      apply List.ext_getElem?
      intro j
      rw [List.getElem?_drop]
      by_cases hj : j < m.length
      · exact h3 j hj
      · rw [List.getElem?_eq_none (by omega), List.getElem?_eq_none (by omega)]
    conv => rhs; rw [← List.take_append_drop (s.length - m.length) s]
    rw [e]

theorem mark_no_k : ∀ j, j < 7 → mkB[j]? ≠ some 107 := by decide

/-- THE MARK NEVER LIES OVER THE UNIT. -/
theorem apart {s : List UInt8} {i : Nat} (h : At s i mkB) (he : EndsIn s unB) : i + 15 ≤ s.length := by
  obtain ⟨h1, h2⟩ := h
  obtain ⟨h3, h4, h5⟩ := he
  have l1 : mkB.length = 7 := rfl
  have l2 : unB.length = 8 := rfl
  rw [l1] at h1 h2
  rw [l2] at h3 h5
  rcases Nat.lt_or_ge s.length (i + 15) with hlt | hge
  · exfalso
    by_cases hi : i ≤ s.length - 8
    · have a := h2 (s.length - 8 - i) (by omega)
      rw [show i + (s.length - 8 - i) = s.length - 8 + 0 by omega, h5 0 (by omega)] at a
      exact mark_no_k _ (by omega) a.symm
    · have a := h2 1 (by omega)
      rw [show i + 1 = s.length - 8 + 2 by omega, h5 2 (by omega)] at a
      exact absurd a (by decide)
  · exact hge

/-! ### A field that is built -/

theorem built_get (b t : List UInt8) (p : Nat) : (b ++ mkB ++ t ++ unB)[b.length + p]? = if p < 7 then mkB[p]? else if p < 7 + t.length then t[p - 7]? else unB[p - (7 + t.length)]? := by
  have l1 : mkB.length = 7 := rfl
  by_cases h1 : p < 7
  · rw [if_pos h1, List.getElem?_append_left (by simp [l1]; omega), List.getElem?_append_left (by simp [l1]; omega), List.getElem?_append_right (by omega)]
    congr 1; omega
  · rw [if_neg h1]
    by_cases h2 : p < 7 + t.length
    · rw [if_pos h2, List.getElem?_append_left (by simp [l1]; omega), List.getElem?_append_right (by simp [l1]; omega)]
      congr 1; simp [l1]; omega
    · rw [if_neg h2, List.getElem?_append_right (by simp [l1]; omega)]
      congr 1; simp [l1]; omega

theorem built_len (b t : List UInt8) : (b ++ mkB ++ t ++ unB).length = b.length + t.length + 15 := by
  have l1 : mkB.length = 7 := rfl
  have l2 : unB.length = 8 := rfl
  simp only [List.length_append, l1, l2]
  omega

theorem built_mark (b t : List UInt8) : At (b ++ mkB ++ t ++ unB) b.length mkB := by
  have l1 : mkB.length = 7 := rfl
  refine ⟨by rw [built_len, l1]; omega, fun j hj => ?_⟩
  rw [l1] at hj
  rw [built_get, if_pos hj]

theorem built_ends (b t : List UInt8) : EndsIn (b ++ mkB ++ t ++ unB) unB := by
  rw [← ends_iff]
  unfold Lib.hasSuffix
  rw [List.isSuffixOf_iff_suffix]
  exact ⟨b ++ mkB ++ t, rfl⟩

theorem mark_bar0 : ∀ j, j < 7 → (0 < j → mkB[j]? = some 95 → j = 6) := by decide
theorem mark_bar (j : Nat) (h0 : 0 < j) (h : j < 7) (e : mkB[j]? = some 95) : j = 6 := mark_bar0 j h h0 e
theorem unit_bar : ∀ j, j < 8 → unB[j]? = some 95 → j = 1 := by decide

/-- NO MARK BEGINS BEHIND THE ONE THAT WAS LAID. -/
theorem built_last (b t : List UInt8) (ht : ∀ x ∈ t, x ≠ 95) (k : Nat) (hk : b.length < k) : ¬ At (b ++ mkB ++ t ++ unB) k mkB := by
  rintro ⟨h1, h2⟩
  have l1 : mkB.length = 7 := rfl
  have l2 : unB.length = 8 := rfl
  rw [built_len, l1] at h1
  rw [l1] at h2
  have noT : ∀ i : Nat, t[i]? ≠ some 95 := fun i hi => ht _ (List.mem_of_getElem? hi) rfl
  obtain ⟨p, rfl⟩ : ∃ p, k = b.length + p := ⟨k - b.length, by omega⟩
  have g : ∀ j, j < 7 → (if p + j < 7 then mkB[p + j]? else if p + j < 7 + t.length then t[p + j - 7]? else unB[p + j - (7 + t.length)]?) = mkB[j]? := by
    intro j hj
    rw [← h2 j hj, Nat.add_assoc, built_get]
  have g0 := g 0 (by omega)
  rw [show mkB[0]? = some 95 from rfl] at g0
  simp only [Nat.add_zero] at g0
  by_cases c1 : p < 7
  · rw [if_pos c1] at g0
    have hp := mark_bar p (by omega) c1 g0
    subst hp
    have g6 := g 6 (by omega)
    rw [show mkB[6]? = some 95 from rfl, if_neg (by omega)] at g6
    by_cases c2 : 6 + 6 < 7 + t.length
    · rw [if_pos c2] at g6
      exact noT _ g6
    · rw [if_neg c2] at g6
      have hq := unit_bar _ (by omega) g6
      have g5 := g 5 (by omega)
      rw [if_neg (by omega), if_neg (by omega), show 6 + 5 - (7 + t.length) = 0 by omega] at g5
      exact absurd g5 (by decide)
  · rw [if_neg c1] at g0
    by_cases c2 : p < 7 + t.length
    · rw [if_pos c2] at g0
      exact noT _ g0
    · rw [if_neg c2] at g0
      have hq := unit_bar _ (by omega) g0
      have g1 := g 1 (by omega)
      rw [if_neg (by omega), if_neg (by omega), show p + 1 - (7 + t.length) = 2 by omega] at g1
      exact absurd g1 (by decide)

end Go.Proofs.Qxb6604291aMods.Cut
