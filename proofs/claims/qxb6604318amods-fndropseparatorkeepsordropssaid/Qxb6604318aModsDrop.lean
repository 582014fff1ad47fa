/-
  THE WALKS of dropSeparator, ZZDropSeparator, FnDropSeparatorKeepsOrDrops.
-/
import Derived.Test.Qxb6604318aModsProg
import Derived.WalkKit
namespace Go.Proofs.Qxb6604318aMods
open Go.RowKit
set_option linter.unusedVariables false

/-- r is none of the five separators. -/
structure Keeps (r : Int) : Prop where
  a : (r == 32) = false
  b : (r == 46) = false
  c : (r == 45) = false
  d : (r == 40) = false
  e : (r == 41) = false

theorem drop_keeps (r : Int) (h : Keeps r) (w : World) :
    Calls Trym.prog 22 #[.int .i32 r] w fun e w' => e = .returned (.int .i32 r) ∧ w' = w := by
  obtain ⟨h1, h2, h3, h4, h5⟩ := h
  go_enter Trym.func22, Trym.ntmps22
  go_wp2
  go_ret
  exact ⟨rfl, rfl⟩

theorem drop_drops (r : Int) (h : r = 32 ∨ r = 46 ∨ r = 45 ∨ r = 40 ∨ r = 41) (w : World) :
    Calls Trym.prog 22 #[.int .i32 r] w fun e w' => e = .returned (.int .i32 (-1)) ∧ w' = w := by
  rcases h with rfl | rfl | rfl | rfl | rfl
  all_goals
    go_enter Trym.func22, Trym.ntmps22
    go_wp2
    go_ret
    exact ⟨rfl, rfl⟩

theorem zz_keeps (r : Int) (h : Keeps r) (w : World) :
    Calls Trym.prog 14 #[.int .i32 r] w fun e w' => e = .returned (.int .i32 r) ∧ w' = w := by
  have H : Hid (Keeps r) := h
  clear h
  go_enter Trym.func14, Trym.ntmps14
  go_wp2_with (go_at_call 22; refine (drop_keeps _ H.out _).mono ?_; rintro e w' ⟨rfl, rfl⟩)
  go_ret
  exact ⟨rfl, rfl⟩

theorem zz_drops (r : Int) (h : r = 32 ∨ r = 46 ∨ r = 45 ∨ r = 40 ∨ r = 41) (w : World) :
    Calls Trym.prog 14 #[.int .i32 r] w fun e w' => e = .returned (.int .i32 (-1)) ∧ w' = w := by
  have H : Hid (r = 32 ∨ r = 46 ∨ r = 45 ∨ r = 40 ∨ r = 41) := h
  clear h
  go_enter Trym.func14, Trym.ntmps14
  go_wp2_with (go_at_call 22; refine (drop_drops _ H.out _).mono ?_; rintro e w' ⟨rfl, rfl⟩)
  go_ret
  exact ⟨rfl, rfl⟩

theorem keeps_minus : Keeps (-1) := ⟨rfl, rfl, rfl, rfl, rfl⟩

set_option maxHeartbeats 400000 in
theorem law_any (r : Int) (w : World) :
    Calls Trym.prog 6 #[.int .i32 r] w fun e w' => e = .returned (.bool true) ∧ w' = w := by
  by_cases hs : r = 32 ∨ r = 46 ∨ r = 45 ∨ r = 40 ∨ r = 41
  · rcases hs with rfl | rfl | rfl | rfl | rfl
    all_goals
      go_enter Trym.func6, Trym.ntmps6
      go_wp2_with fail
      refine (zz_drops _ (by omega) _).mono ?_
      rintro e w' ⟨rfl, hw⟩
      obtain rfl : w = w' := hw.symm
      go_wp2_with fail
      refine (zz_keeps _ keeps_minus _).mono ?_
      rintro e w' ⟨rfl, hw⟩
      obtain rfl : w = w' := hw.symm
      go_wp2
      go_ret
      exact ⟨rfl, rfl⟩
  · have hk : Keeps r := ⟨by simp; omega, by simp; omega, by simp; omega, by simp; omega, by simp; omega⟩
    have H : Hid (Keeps r) := hk
    clear hk hs
    have hrr : (r != r) = false := by simp
    go_enter Trym.func6, Trym.ntmps6
    go_wp2_with fail
    refine (zz_keeps _ H.out _).mono ?_
    rintro e w' ⟨rfl, hw⟩
    obtain rfl : w = w' := hw.symm
    go_wp2_with fail
    refine (zz_keeps _ H.out _).mono ?_
    rintro e w' ⟨rfl, hw⟩
    obtain rfl : w = w' := hw.symm
    go_wp2
    all_goals
      go_ret
      exact ⟨rfl, rfl⟩

end Go.Proofs.Qxb6604318aMods
