/-
  THE WALKS of the seat: compareVersions, zzKey, zzSign, the law.
-/
import Derived.Test.Qxb6603324aModsProg
import Derived.WalkKit
import Derived.RegionTactic
namespace Go.Proofs.Qxb6603324aMods
open Go.RowKit
set_option linter.unusedVariables false

/-- The pointer value v: nil, or to a uint32 that holds n. -/
def IsPtr (w : World) (v : Value) (o : Option Int) : Prop :=
  (v = .pointer none ∧ o = none) ∨ ∃ b off n, v = .pointer (some ⟨b, off, none⟩) ∧ o = some n ∧ w.cell? ⟨b, off, none⟩ = some (.int .u32 n) ∧ 0 ≤ n ∧ n ≤ 4294967295

/-- nil stands at -1. -/
def key : Option Int → Int
  | none => -1
  | some n => n

/-- The sign of x - y. -/
def sgn (x y : Int) : Int := if x < y then -1 else if y < x then 1 else 0

theorem sgn_lt {x y : Int} (h : x < y) : sgn x y = -1 := by unfold sgn; rw [if_pos h]
theorem sgn_gt {x y : Int} (h : y < x) : sgn x y = 1 := by unfold sgn; rw [if_neg (by omega), if_pos h]
theorem sgn_eq {x y : Int} (h : x = y) : sgn x y = 0 := by unfold sgn; rw [if_neg (by omega), if_neg (by omega)]

theorem ret_int {k : IntKind} {a b : Int} (h : a = b) : Ending.returned (.int k a) = .returned (.int k b) := by rw [h]

theorem IsPtr.below {w w' : World} {v : Value} {o : Option Int} (h : IsPtr w v o) (hb : Below w.heap.size w w') : IsPtr w' v o := by
  rcases h with h | ⟨b, off, n, h1, h2, h3, h4⟩
  · exact .inl h
  · exact .inr ⟨b, off, n, h1, h2, (hb.cell (p := ⟨b, off, none⟩) (World.block_lt_of_cell? _ _ h3)).trans h3, h4⟩

theorem sign_any (x y : Int) (w : World) : Calls Trym.prog 10 #[.int .i64 x, .int .i64 y] w fun e w' => e = .returned (.int .i64 (sgn x y)) ∧ w' = w := by
  rcases Int.lt_trichotomy x y with h | h | h
  · have HS : Hid (sgn x y = -1) := sgn_lt h
    go_enter Trym.func10, Trym.ntmps10
    go_wp2
    go_ret
    exact ⟨ret_int HS.out.symm, rfl⟩
  · have := sgn_eq h
    have HS : Hid (sgn x y = 0) := this
    have h1 : ¬ x < y := by omega
    have h2 : ¬ y < x := by omega
    clear this h
    go_enter Trym.func10, Trym.ntmps10
    go_wp2
    go_ret
    exact ⟨ret_int HS.out.symm, rfl⟩
  · have HS : Hid (sgn x y = 1) := sgn_gt h
    have h1 : ¬ x < y := by omega
    go_enter Trym.func10, Trym.ntmps10
    go_wp2
    go_ret
    exact ⟨ret_int HS.out.symm, rfl⟩

theorem key_any (v : Value) (o : Option Int) (w : World) (h : IsPtr w v o) : Calls Trym.prog 11 #[v] w fun e w' => e = .returned (.int .i64 (key o)) ∧ w' = w := by
  rcases h with ⟨rfl, rfl⟩ | ⟨b, off, n, rfl, rfl, hc, h0, h1⟩
  · go_enter Trym.func11, Trym.ntmps11
    go_wp2
    go_ret
    exact ⟨rfl, rfl⟩
  · go_enter Trym.func11, Trym.ntmps11
    go_wp2
    go_ret
    exact ⟨rfl, rfl⟩

theorem comp_any (va vb : Value) (oa ob : Option Int) (w : World) (ha : IsPtr w va oa) (hb : IsPtr w vb ob) :
    Calls Trym.prog 20 #[va, vb] w fun e w' => e = .returned (.int .i64 (sgn (key oa) (key ob))) ∧ Below w.heap.size w w' := by
  rcases ha with ⟨rfl, rfl⟩ | ⟨b, off, n, rfl, rfl, hc, h0, h1⟩
  · rcases hb with ⟨rfl, rfl⟩ | ⟨b', off', n', rfl, rfl, hc', h0', h1'⟩
    · go_enter Trym.func20, Trym.ntmps20
      go_wp2
      go_ret
      exact ⟨rfl, Below.refl _ _⟩
    · go_enter Trym.func20, Trym.ntmps20
      go_wp2
      go_ret
      exact ⟨ret_int (sgn_lt (show (-1 : Int) < n' by omega)).symm, Below.refl _ _⟩
  · rcases hb with ⟨rfl, rfl⟩ | ⟨b', off', n', rfl, rfl, hc', h0', h1'⟩
    · go_enter Trym.func20, Trym.ntmps20
      go_wp2
      go_ret
      exact ⟨ret_int (sgn_gt (show (-1 : Int) < n by omega)).symm, Below.refl _ _⟩
    · go_enter Trym.func20, Trym.ntmps20
      go_wp2
      go_region
      all_goals go_wp2
      · have h : n < n' := by assumption
        go_ret
        exact ⟨ret_int (sgn_lt h).symm, (Below.refl _ _).drew⟩
      · have h : n' ≤ n := by assumption
        go_region
        all_goals go_wp2
        · have h' : n' < n := by assumption
          go_ret
          exact ⟨ret_int (sgn_gt h').symm, (Below.refl _ _).drew.drew⟩
        · have h' : n ≤ n' := by assumption
          go_ret
          exact ⟨ret_int (sgn_eq (show n = n' by omega)).symm, (Below.refl _ _).drew.drew⟩

theorem zz_any (va vb : Value) (oa ob : Option Int) (w : World) (ha : IsPtr w va oa) (hb : IsPtr w vb ob) :
    Calls Trym.prog 9 #[va, vb] w fun e w' => e = .returned (.int .i64 (sgn (key oa) (key ob))) ∧ Below w.heap.size w w' := by
  have HA : Hid (IsPtr w va oa) := ha
  have HB : Hid (IsPtr w vb ob) := hb
  clear ha hb
  go_enter Trym.func9, Trym.ntmps9
  go_wp2_with (go_at_call 20; refine (comp_any va vb oa ob _ HA.out HB.out).mono ?_; rintro e w' ⟨rfl, hbel⟩)
  go_ret
  exact ⟨rfl, hbel⟩

theorem law_any (va vb : Value) (oa ob : Option Int) (w : World) (ha : IsPtr w va oa) (hb : IsPtr w vb ob) :
    Calls Trym.prog 3 #[va, vb] w fun e w' => e = .returned (.bool true) ∧ Below w.heap.size w w' := by
  have HA : Hid (IsPtr w va oa) := ha
  have HB : Hid (IsPtr w vb ob) := hb
  clear ha hb
  go_enter Trym.func3, Trym.ntmps3
  go_wp2_with fail
  refine (zz_any va vb oa ob _ HA.out HB.out).mono ?_
  rintro e w1 ⟨rfl, hbel⟩
  have HA1 : Hid (IsPtr w1 va oa) := HA.out.below hbel
  have HB1 : Hid (IsPtr w1 vb ob) := HB.out.below hbel
  go_wp2_with fail
  refine (key_any va oa _ HA1.out).mono ?_
  rintro e w' ⟨rfl, hw⟩
  obtain rfl : w1 = w' := hw.symm
  go_wp2_with fail
  refine (key_any vb ob _ HB1.out).mono ?_
  rintro e w' ⟨rfl, hw⟩
  obtain rfl : w1 = w' := hw.symm
  go_wp2_with fail
  refine (sign_any _ _ _).mono ?_
  rintro e w' ⟨rfl, hw⟩
  obtain rfl : w1 = w' := hw.symm
  go_wp2
  go_ret
  exact ⟨by simp, hbel⟩

end Go.Proofs.Qxb6603324aMods
