/-
  THE WALK of FnSplitAboveSpec.
-/
import Derived.Test.Qxb6604291aModsAt
namespace Go.Proofs.Qxb6604291aMods
open Go.RowKit Cut
set_option linter.unusedVariables false

def SomeBool1 (e : Ending) : Prop := ∃ r : Bool, e = .returned (.bool r)

theorem bytes1_any (a : ByteArray) (ha : a.size ≤ maxLen) (w : World) :
    Calls Trym.prog 5 #[.string a] w fun e w' => SomeBool1 e ∧ w' = w := by
  unfold maxLen at ha
  go_enter Trym.func5, Trym.ntmps5
  go_wp2
  all_goals (go_ret; exact ⟨⟨_, rfl⟩, rfl⟩)

theorem at_extract (s : ByteArray) (a b : Nat) (h1 : a ≤ b) (h2 : b ≤ s.size) : At s.data.toList a (s.extract a b).data.toList := by
  rw [Lib.extract_data]
  have hl : s.data.toList.length = s.size := by simp
  refine ⟨by rw [List.length_take, List.length_drop]; omega, fun j hj => ?_⟩
  rw [List.length_take, List.length_drop] at hj
  rw [List.getElem?_take_of_lt (by omega), List.getElem?_drop]

theorem ends_at (s : ByteArray) (h8 : 8 ≤ s.size) : EndsIn s.data.toList unB ↔ At s.data.toList (s.size - 8) unB := by
  unfold EndsIn
  have hl : s.data.toList.length = s.size := by simp
  have l2 : unB.length = 8 := rfl
  rw [hl, l2]
  exact ⟨fun h => h.2, fun h => ⟨h8, h⟩⟩

theorem ends_short (s : ByteArray) (h8 : s.size < 8) : ¬ EndsIn s.data.toList unB := fun h => by
  have := h.1
  have hl : s.data.toList.length = s.size := by simp
  have l2 : unB.length = 8 := rfl
  omega

/-- A bool that says p. -/
def Says (p : Prop) (e : Ending) : Prop := ∃ r : Bool, e = .returned (.bool r) ∧ (r = true ↔ p)

theorem at_int (s m : ByteArray) (x : Int) (i : Nat) (hx : x = (i : Int)) (hs : s.size ≤ 1100000) (hm : m.size ≤ 1100000) (hi : i ≤ 1100000) (w : World) :
    Calls Trym.prog 7 #[.string s, .int .i64 x, .string m] w fun e w' => Says (At s.data.toList i m.data.toList) e ∧ Below w.heap.size w w' := by
  subst hx
  exact at_any s m i hs hm hi w

theorem from_int (s m : ByteArray) (x : Int) (i : Nat) (hx : x = (i : Int)) (hs : s.size ≤ 1100000) (hm : m.size ≤ 1100000) (hi : i ≤ 1100000) (w : World) :
    Calls Trym.prog 8 #[.string s, .int .i64 x, .string m] w fun e w' => Says (∃ k, i ≤ k ∧ At s.data.toList k m.data.toList) e ∧ Below w.heap.size w w' := by
  subst hx
  exact from_any s m i hs hm hi w

theorem unit_size : (ByteArray.mk #[107, 95, 116, 111, 107, 101, 110, 115]).size = 8 := rfl
theorem mark_size : (ByteArray.mk #[95, 97, 98, 111, 118, 101, 95]).size = 7 := rfl

set_option maxHeartbeats 1000000 in
theorem spec_any (s : ByteArray) (hs : s.size ≤ maxLen) (w : World) :
    Calls Trym.prog 3 #[.string s] w fun e w' => e = .returned (.bool true) ∧ Below w.heap.size w w' := by
  have HS : Hid (s.size ≤ maxLen) := hs
  unfold maxLen at hs
  go_enter Trym.func3, Trym.ntmps3
  go_wp2_with fail
  refine (bytes1_any s HS.out _).mono ?_
  rintro e w' ⟨⟨r, rfl⟩, hw⟩
  obtain rfl : w = w' := hw.symm
  go_wp2_with fail
  · go_ret
    exact ⟨rfl, Below.refl _ _⟩
  · go_ret
    exact ⟨rfl, Below.refl _ _⟩
  · have hs' : (s.size : Int) ≤ 1048576 := by assumption
    refine (zz_any s (by omega) _).mono ?_
    rintro e w1 ⟨⟨rfl, hn⟩ | ⟨i, h1, h2, h3, h4, rfl⟩, hb⟩
    · have HN : Hid (¬ (EndsIn s.data.toList unB ∧ ∃ k, At s.data.toList k mkB)) := hn
      clear hn
      by_cases h8 : 8 ≤ s.size
      · have g8 : decide ((8 : Int) ≤ (s.size : Int)) = true := by simp; omega
        go_wp2_with fail
        refine (at_int s _ _ (s.size - 8) (by omega) (by omega) (by rw [unit_size]; omega) (by omega) _).mono ?_
        rintro e w2 ⟨⟨r1, rfl, hr1⟩, hb2⟩
        have HR1 : Hid (r1 = true ↔ At s.data.toList (s.size - 8) unB) := hr1
        clear hr1
        go_wp2_with fail
        refine (from_int s _ _ 0 rfl (by omega) (by rw [mark_size]; omega) (by omega) _).mono ?_
        rintro e w3 ⟨⟨r2, rfl, hr2⟩, hb3⟩
        have HR2 : Hid (r2 = true ↔ ∃ k, 0 ≤ k ∧ At s.data.toList k mkB) := hr2
        clear hr2
        have hbb : Below w.heap.size w w3 := (hb.trans (hb2.mono hb.size)).trans (hb3.mono (hb.trans (hb2.mono hb.size)).size)
        have hnot : ¬ (r1 = true ∧ r2 = true) := fun ⟨x1, x2⟩ => by
          obtain ⟨k, _, hk⟩ := HR2.out.1 x2
          exact HN.out ⟨(ends_at s h8).2 (HR1.out.1 x1), k, hk⟩
        clear HN HR1 HR2
        cases r1 <;> cases r2
        · go_wp2
          go_ret
          exact ⟨rfl, hbb⟩
        · go_wp2
          go_ret
          exact ⟨rfl, hbb⟩
        · go_wp2
          go_ret
          exact ⟨rfl, hbb⟩
        · exact absurd ⟨rfl, rfl⟩ hnot
      · have g8 : decide ((8 : Int) ≤ (s.size : Int)) = false := by simp; omega
        go_wp2_with fail
        refine (from_int s _ _ 0 rfl (by omega) (by rw [mark_size]; omega) (by omega) _).mono ?_
        rintro e w3 ⟨⟨r2, rfl, hr2⟩, hb3⟩
        clear hr2
        have hbb : Below w.heap.size w w3 := hb.trans (hb3.mono hb.size)
        go_wp2
        go_ret
        exact ⟨rfl, hbb⟩
    · have HI : Hid (EndsIn s.data.toList unB ∧ At s.data.toList i mkB ∧ ∀ k, i < k → ¬ At s.data.toList k mkB) := ⟨h1, h2, h3⟩
      clear h1 h2 h3
      have g8 : decide ((8 : Int) ≤ (s.size : Int)) = true := by simp; omega
      go_wp2_with fail
      refine (at_int s _ _ (s.size - 8) (by omega) (by omega) (by rw [unit_size]; omega) (by omega) _).mono ?_
      rintro e w2 ⟨⟨r1, rfl, hr1⟩, hb2⟩
      clear hr1
      have hb02 := hb.trans (hb2.mono hb.size)
      clear hb hb2
      go_wp2_with fail
      refine (from_int s _ _ 0 rfl (by omega) (by rw [mark_size]; omega) (by omega) _).mono ?_
      rintro e w3 ⟨⟨r2, rfl, hr2⟩, hb3⟩
      clear hr2
      have hb03 := hb02.trans (hb3.mono hb02.size)
      clear hb02 hb3
      have z1 : (s.extract 0 i).size ≤ 1100000 := by rw [ByteArray.size_extract]; omega
      have z2 : (s.extract (i + 7) (s.size - 8)).size ≤ 1100000 := by rw [ByteArray.size_extract]; omega
      have Z1 : Hid ((s.extract 0 i).size ≤ 1100000) := z1
      have Z2 : Hid ((s.extract (i + 7) (s.size - 8)).size ≤ 1100000) := z2
      clear z1 z2
      go_wp2_with fail
      refine (at_int s _ _ 0 rfl (by omega) Z1.out (by omega) _).mono ?_
      rintro e w4 ⟨⟨r3, rfl, hr3⟩, hb4⟩
      obtain rfl := hr3.2 (at_extract s 0 i (by omega) (by omega))
      have hb04 := hb03.trans (hb4.mono hb03.size)
      clear hr3 hb03 hb4
      go_wp2_with fail
      refine (at_int s _ _ i (by omega) (by omega) (by rw [mark_size]; omega) (by omega) _).mono ?_
      rintro e w5 ⟨⟨r4, rfl, hr4⟩, hb5⟩
      obtain rfl := hr4.2 HI.out.2.1
      have hb05 := hb04.trans (hb5.mono hb04.size)
      clear hr4 hb04 hb5
      go_wp2_with fail
      refine (at_int s _ _ (i + 7) (by omega) (by omega) Z2.out (by omega) _).mono ?_
      rintro e w6 ⟨⟨r5, rfl, hr5⟩, hb6⟩
      obtain rfl := hr5.2 (at_extract s (i + 7) (s.size - 8) (by omega) (by omega))
      have hb06 := hb05.trans (hb6.mono hb05.size)
      clear hr5 hb05 hb6
      go_wp2_with fail
      refine (at_int s _ _ (s.size - 8) (by omega) (by omega) (by rw [unit_size]; omega) (by omega) _).mono ?_
      rintro e w7 ⟨⟨r6, rfl, hr6⟩, hb7⟩
      obtain rfl := hr6.2 ((ends_at s (by omega)).1 HI.out.1)
      have hb07 := hb06.trans (hb7.mono hb06.size)
      clear hr6 hb06 hb7
      go_wp2_with fail
      refine (from_int s _ _ (i + 1) (by omega) (by omega) (by rw [mark_size]; omega) (by omega) _).mono ?_
      rintro e w8 ⟨⟨r7, rfl, hr7⟩, hb8⟩
      have h7 : r7 = false := by
        cases r7 with
        | false => rfl
        | true =>
          obtain ⟨k, hk, hat⟩ := hr7.1 rfl
          exact absurd hat (HI.out.2.2 k (by omega))
      subst h7
      have hb08 := hb07.trans (hb8.mono hb07.size)
      clear hr7 hb07 hb8
      go_wp2
      go_ret
      exact ⟨rfl, hb08⟩

end Go.Proofs.Qxb6604291aMods
