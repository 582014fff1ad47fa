/-
  THE WALKS of splitAboveAt, splitAboveFrom.
-/
import Derived.Test.Qxb6604291aModsSplit
namespace Go.Proofs.Qxb6604291aMods
open Go.RowKit Cut
set_option linter.unusedVariables false

/-- What splitAboveAt answers. -/
def AtPost (s : ByteArray) (i : Nat) (m : ByteArray) (e : Ending) : Prop := ∃ r : Bool, e = .returned (.bool r) ∧ (r = true ↔ At s.data.toList i m.data.toList)

/-- The first j bytes of m stand in s at i. -/
def Upto (s : ByteArray) (i : Nat) (m : ByteArray) (j : Nat) : Prop := ∀ t, t < j → s.data.toList[i + t]? = m.data.toList[t]?

theorem get_list (s : ByteArray) (k : Nat) (h : k < s.size) : s.data.toList[k]? = some s[k] := by
  rw [Array.getElem?_toList, Array.getElem?_eq_getElem h]
  rfl

theorem upto_step {s m : ByteArray} {i j : Nat} (h : Upto s i m j) (hj : j < m.size) (hi : i + j < s.size) (e : ((s[i + j].toNat : Int) != (m[j].toNat : Int)) = false) : Upto s i m (j + 1) := fun t ht => by
  by_cases htj : t = j
  · subst htj
    rw [get_list s _ hi, get_list m _ hj]
    have e1 : (s[i + t].toNat : Int) = (m[t].toNat : Int) := by simpa using e
    have e2 : s[i + t].toNat = m[t].toNat := by omega
    rw [UInt8.toNat_inj.1 e2]
  · exact h t (by omega)

theorem not_at {s m : ByteArray} {i j : Nat} (hj : j < m.size) (hi : i + j < s.size) (e : ((s[i + j].toNat : Int) != (m[j].toNat : Int)) = true) : ¬ At s.data.toList i m.data.toList := fun h => by
  have := h.2 j (by simpa using hj)
  rw [get_list s _ hi, get_list m _ hj] at this
  rw [Option.some.inj this] at e
  simp at e

theorem at_of_upto {s m : ByteArray} {i : Nat} (hi : i + m.size ≤ s.size) (h : Upto s i m m.size) : At s.data.toList i m.data.toList :=
  ⟨by simpa using hi, fun j hj => h j (by simpa using hj)⟩

set_option maxHeartbeats 400000 in
theorem at_any (s m : ByteArray) (i : Nat) (hs : s.size ≤ 1100000) (hm : m.size ≤ 1100000) (hi : i ≤ 1100000) (w : World) :
    Calls Trym.prog 7 #[.string s, .int .i64 (i : Int), .string m] w fun e w' => AtPost s i m e ∧ Below w.heap.size w w' := by
  have g0 : decide ((i : Int) < 0) = false := by simp
  by_cases hfit : i + m.size ≤ s.size
  · have g1 : decide ((s.size : Int) < (i : Int)) = false := by simp; omega
    have g2 : decide ((s.size : Int) - (i : Int) < (m.size : Int)) = false := by simp; omega
    go_enter Trym.func7, Trym.ntmps7
    go_wp2
    clear g0 g1 g2
    go_loopw [7] (fun t wr => ∃ j : Nat, j ≤ m.size ∧ t = .int .i64 (j : Int) ∧ Upto s i m j ∧ Below w.heap.size w wr) (fun t _ => m.size - (intOf t).toNat)
    case atStart => exact ⟨0, Nat.zero_le _, rfl, fun t ht => absurd ht (Nat.not_lt_zero _), Below.refl _ _⟩
    case round =>
      obtain ⟨j, hj, rfl, hup, hb⟩ := hrel
      by_cases hlt : j < m.size
      · have x1 : i + j < s.size := by omega
        have x2 : (i : Int) + (j : Int) < (s.size : Int) := by omega
        have x3 : (j : Int) < (m.size : Int) := by omega
        have x4 : 0 ≤ (i : Int) + (j : Int) := by omega
        go_wp2
        go_region
        all_goals go_wp2
        · have e : ((s[i + j].toNat : Int) != (m[j].toNat : Int)) = true := by assumption
          go_ret
          exact ⟨⟨false, rfl, ⟨fun h => (by cases h), fun h => absurd h (not_at hlt x1 e)⟩⟩, hb.drew⟩
        · have e : ((s[i + j].toNat : Int) != (m[j].toNat : Int)) = false := by assumption
          go_roundw
          case rel => exact ⟨j + 1, by omega, by go_num, upto_step hup hlt x1 e, hb.drew⟩
          case measure => simp [intOf]; omega
      · go_wp2
        go_ret
        have e : j = m.size := by omega
        subst e
        exact ⟨⟨true, rfl, ⟨fun _ => at_of_upto hfit hup, fun _ => rfl⟩⟩, hb⟩
  · by_cases h1 : s.size < i
    · go_enter Trym.func7, Trym.ntmps7
      go_wp2
      go_ret
      exact ⟨⟨false, rfl, ⟨fun h => (by cases h), fun h => absurd h.1 (by simp; omega)⟩⟩, Below.refl _ _⟩
    · have g1 : decide ((s.size : Int) < (i : Int)) = false := by simp; omega
      have h2 : (s.size : Int) - (i : Int) < (m.size : Int) := by omega
      go_enter Trym.func7, Trym.ntmps7
      go_wp2
      go_ret
      exact ⟨⟨false, rfl, ⟨fun h => (by cases h), fun h => absurd h.1 (by simp; omega)⟩⟩, Below.refl _ _⟩

/-- What splitAboveFrom answers. -/
def FromPost (s : ByteArray) (a : Nat) (m : ByteArray) (e : Ending) : Prop := ∃ r : Bool, e = .returned (.bool r) ∧ (r = true ↔ ∃ k, a ≤ k ∧ At s.data.toList k m.data.toList)

set_option maxHeartbeats 400000 in
theorem from_any (s m : ByteArray) (a : Nat) (hs : s.size ≤ 1100000) (hm : m.size ≤ 1100000) (ha : a ≤ 1100000) (w : World) :
    Calls Trym.prog 8 #[.string s, .int .i64 (a : Int), .string m] w fun e w' => FromPost s a m e ∧ Below w.heap.size w w' := by
  go_enter Trym.func8, Trym.ntmps8
  go_wp2
  go_loopw [7] (fun t wr => ∃ k : Nat, a ≤ k ∧ k ≤ 1100001 ∧ t = .int .i64 (k : Int) ∧ (∀ q, a ≤ q → q < k → ¬ At s.data.toList q m.data.toList) ∧ Below w.heap.size w wr) (fun t _ => s.size + 1 - (intOf t).toNat)
  case atStart => exact ⟨a, Nat.le_refl _, by omega, rfl, fun q h1 h2 => by omega, Below.refl _ _⟩
  case round =>
    obtain ⟨k, hak, hk, rfl, hno, hb⟩ := hrel
    have HN : Hid (∀ q, a ≤ q → q < k → ¬ At s.data.toList q m.data.toList) := hno
    clear hno
    by_cases hfit : k + m.size ≤ s.size
    · go_wp2_with (go_at_call 7; refine (at_any s m k hs hm (by omega) _).mono ?_; rintro e w' ⟨⟨r, rfl, hr⟩, hb2⟩; have HR : Hid (r = true ↔ At s.data.toList k m.data.toList) := hr; clear hr)
      · have hr : r = true := by assumption
        go_ret
        exact ⟨⟨true, rfl, ⟨fun _ => ⟨k, hak, HR.out.1 hr⟩, fun _ => rfl⟩⟩, hb.trans (hb2.mono hb.size)⟩
      · have hr : r = false := by assumption
        go_roundw
        case rel => exact ⟨k + 1, by omega, by omega, by go_num, fun q h1 h2 hq => by
                      by_cases e : q = k
                      · rw [e] at hq
                        have := HR.out.2 hq
                        rw [hr] at this
                        cases this
                      · exact HN.out q h1 (by omega) hq, hb.trans (hb2.mono hb.size)⟩
        case measure => simp [intOf]; omega
    · go_wp2
      go_ret
      exact ⟨⟨false, rfl, ⟨fun h => (by cases h), fun ⟨q, h1, h2⟩ => by
        by_cases e : q < k
        · exact absurd h2 (HN.out q h1 e)
        · have := h2.1
          simp at this
          omega⟩⟩, hb⟩

end Go.Proofs.Qxb6604291aMods
