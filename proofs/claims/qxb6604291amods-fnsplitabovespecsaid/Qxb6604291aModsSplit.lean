/-
  THE WALKS of splitAbove, ZZsplitAbove.
-/
import Derived.Test.Qxb6604291aModsShelf
import Derived.Test.Qxb6604291aModsPlain
import Derived.WalkKit
import Derived.WalkSpells
import Derived.RegionTactic
import Derived.Deep.QuietTactic
import Derived.BigQuiet
namespace Go.Proofs.Qxb6604291aMods
open Go.RowKit Cut
set_option linter.unusedVariables false

theorem below_drews {B : Nat} {a w : World} (h : Below B a w) (n : Nat) : Below B a (w.drewN n) := h.trans ⟨rfl, rfl, rfl, Nat.le_refl _, fun _ _ => rfl⟩

/-- What splitAbove answers. -/
def SplitPost (s : ByteArray) (e : Ending) : Prop :=
  (e = .returned (.tuple #[.string ⟨#[]⟩, .string ⟨#[]⟩, .bool false]) ∧ ¬ (EndsIn s.data.toList unB ∧ ∃ k, At s.data.toList k mkB)) ∨
  ∃ i : Nat, EndsIn s.data.toList unB ∧ At s.data.toList i mkB ∧ (∀ k, i < k → ¬ At s.data.toList k mkB) ∧ i + 15 ≤ s.size ∧
    e = .returned (.tuple #[.string (s.extract 0 i), .string (s.extract (i + 7) (s.size - 8)), .bool true])

set_option maxHeartbeats 400000 in
theorem split_any (s : ByteArray) (hs : s.size ≤ 1100000) (w : World) :
    Calls Trym.prog 11 #[.string s] w fun e w' => SplitPost s e ∧ Below w.heap.size w w' := by
  cases hsuf : Lib.hasSuffix s.data.toList unB with
  | false =>
    have HN : Hid (¬ EndsIn s.data.toList unB) := fun h => by rw [(ends_iff _ _).2 h] at hsuf; cases hsuf
    have HS : Hid (Lib.hasSuffix s.data.toList unB = false) := hsuf
    clear hsuf
    go_enter Trym.func11, Trym.ntmps11
    go_wp2_with fail
    refine (Trym.strings_HasSuffix s _ _ (by omega)).mono ?_
    rintro e w' ⟨rfl, hw⟩
    obtain rfl : w = w' := hw.symm
    rw [show (Lib.hasSuffix s.data.toList (ByteArray.mk #[107, 95, 116, 111, 107, 101, 110, 115]).data.toList) = false from HS.out]
    go_wp2
    go_ret3
    exact ⟨.inl ⟨rfl, fun h => HN.out h.1⟩, Below.refl _ _⟩
  | true =>
    have HN : Hid (EndsIn s.data.toList unB) := (ends_iff _ _).1 hsuf
    have HS : Hid (Lib.hasSuffix s.data.toList unB = true) := hsuf
    clear hsuf
    rcases last_spec s.data.toList mkB (by simp [mkB]) with ⟨h1, h2⟩ | ⟨i, h1, h2, h3⟩
    · have H1 : Hid (Lib.lastIndex s.data.toList mkB = -1) := h1
      have H2 : Hid (∀ k, ¬ At s.data.toList k mkB) := h2
      clear h1 h2
      go_enter Trym.func11, Trym.ntmps11
      go_wp2_with fail
      refine (Trym.strings_HasSuffix s _ _ (by omega)).mono ?_
      rintro e w' ⟨rfl, hw⟩
      obtain rfl : w = w' := hw.symm
      rw [show (Lib.hasSuffix s.data.toList (ByteArray.mk #[107, 95, 116, 111, 107, 101, 110, 115]).data.toList) = true from HS.out]
      go_wp2_with fail
      refine (Trym.strings_LastIndex s _ (by omega) _).mono ?_
      rintro e w' ⟨rfl, hw⟩
      obtain rfl : w = w' := hw.symm
      rw [show (Lib.lastIndex s.data.toList (ByteArray.mk #[95, 97, 98, 111, 118, 101, 95]).data.toList) = -1 from H1.out]
      go_wp2
      go_ret3
      exact ⟨.inl ⟨rfl, fun h => by obtain ⟨_, k, hk⟩ := h; exact H2.out k hk⟩, Below.refl _ _⟩
    · have hap := apart h2 HN.out
      have hlen : s.data.toList.length = s.size := by simp
      rw [hlen] at hap
      have H1 : Hid (Lib.lastIndex s.data.toList mkB = (i : Int)) := h1
      have H2 : Hid (At s.data.toList i mkB) := h2
      have H3 : Hid (∀ k, i < k → ¬ At s.data.toList k mkB) := h3
      clear h1 h2 h3 hlen
      go_enter Trym.func11, Trym.ntmps11
      go_wp2_with fail
      refine (Trym.strings_HasSuffix s _ _ (by omega)).mono ?_
      rintro e w' ⟨rfl, hw⟩
      obtain rfl : w = w' := hw.symm
      rw [show (Lib.hasSuffix s.data.toList (ByteArray.mk #[107, 95, 116, 111, 107, 101, 110, 115]).data.toList) = true from HS.out]
      go_wp2_with fail
      refine (Trym.strings_LastIndex s _ (by omega) _).mono ?_
      rintro e w' ⟨rfl, hw⟩
      obtain rfl : w = w' := hw.symm
      rw [show (Lib.lastIndex s.data.toList (ByteArray.mk #[95, 97, 98, 111, 118, 101, 95]).data.toList) = (i : Int) from H1.out]
      go_wp2
      go_quiet (fail)
      go_wp2
      go_ret3
      exact ⟨.inr ⟨i, HN.out, H2.out, H3.out, hap, rfl⟩, below_drews (Below.refl _ _) _⟩

/-- The three results, whatever they are. -/
theorem zz_any (s : ByteArray) (hs : s.size ≤ 1100000) (w : World) :
    Calls Trym.prog 6 #[.string s] w fun e w' => SplitPost s e ∧ Below w.heap.size w w' := by
  go_enter Trym.func6, Trym.ntmps6
  go_wp2_with fail
  refine (split_any s hs _).mono ?_
  rintro e w' ⟨h | ⟨i, h1, h2, h3, h4, h5⟩, hb⟩
  · obtain ⟨rfl, hn⟩ := h
    have HN : Hid (¬ (EndsIn s.data.toList unB ∧ ∃ k, At s.data.toList k mkB)) := hn
    clear hn
    go_wp2
    go_ret3
    exact ⟨.inl ⟨rfl, HN.out⟩, hb⟩
  · subst h5
    have H : Hid (EndsIn s.data.toList unB ∧ At s.data.toList i mkB ∧ (∀ k, i < k → ¬ At s.data.toList k mkB) ∧ i + 15 ≤ s.size) := ⟨h1, h2, h3, h4⟩
    clear h1 h2 h3 h4
    go_wp2
    go_ret3
    exact ⟨.inr ⟨i, H.out.1, H.out.2.1, H.out.2.2.1, H.out.2.2.2, rfl⟩, hb⟩

end Go.Proofs.Qxb6604291aMods
