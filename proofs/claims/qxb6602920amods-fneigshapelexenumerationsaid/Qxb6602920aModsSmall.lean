/-
  THE SMALL WALKS of the seat: zzHas, slices.Index, slices.Contains, zzShapeFits.
-/
import Derived.Test.Qxb6602920aModsProg
import Derived.Test.Qxb6602920aModsPlain
import Derived.WalkKit
namespace Go.Proofs.Qxb6602920aMods
open Go.RowKit EIG

theorem ret_bool {a b : Bool} (h : a = b) : Ending.returned (.bool a) = .returned (.bool b) := by rw [h]
theorem ret_int {k : IntKind} {a b : Int} (h : a = b) : Ending.returned (.int k a) = .returned (.int k b) := by rw [h]

/-- The slice value v holds the numbers xs in w: nothing is said of an empty slice's address. -/
def Row (w : World) (v : Value) (xs : List Int) : Prop :=
  ∃ ao cap, v = .slice ao xs.length cap ∧ (0 < xs.length → ∃ b off, ao = some ⟨b, off, none⟩ ∧ ∀ i, i < xs.length → w.cell? ⟨b, off + i, none⟩ = some (.int .i64 (xs.getD i 0)))

theorem has_zero (ao : Option Addr) (cap : Nat) (x : Int) (w : World) :
    Calls Trym.prog 13 #[.slice ao 0 cap, .int .i64 x] w fun e w' => e = .returned (.bool false) ∧ w' = w := by
  go_enter Trym.func13, Trym.ntmps13
  go_wp2
  refine wp_loop_rounds 1 ?_
  rw [rounds_succ]
  go_wp2
  go_ret
  exact ⟨rfl, rfl⟩

theorem has_some (b off len cap : Nat) (zs : List Int) (x : Int) (w : World) (hlen : len ≤ 9223372036854775807) (hz : len ≤ zs.length)
    (hc : ∀ i, i < len → w.cell? ⟨b, off + i, none⟩ = some (.int .i64 (zs.getD i 0))) :
    Calls Trym.prog 13 #[.slice (some ⟨b, off, none⟩) len cap, .int .i64 x] w fun e w' => e = .returned (.bool (hasB (zs.take len) x)) ∧ w' = w := by
  go_enter Trym.func13, Trym.ntmps13
  go_wp2
  go_loop [5] (fun i => ∃ k : Nat, k ≤ len ∧ i = .int .i64 k ∧ hasB (zs.take k) x = false) (fun i => len - (intOf i).toNat)
  case atStart => exact ⟨0, Nat.zero_le _, rfl, rfl⟩
  case round =>
    obtain ⟨k, hk, rfl, hno⟩ := hrel
    have hcell : k < len → w.cell? ⟨b, off + k, none⟩ = some (.int .i64 (zs.getD k 0)) := fun h => hc k h
    have HN : Hid (hasB (zs.take k) x = false) := hno
    clear hno hc
    go_wp2
    · have hlt : k < len := by assumption
      have hx : (zs[k]?.getD 0 == x) = true := by assumption
      go_ret
      exact ⟨ret_bool (hasB_hit (k := k) (by rw [List.length_take]; omega) (by rw [List.getElem?_take_of_lt hlt]; exact hx)).symm, rfl⟩
    · have hlt : k < len := by assumption
      have hx : (zs[k]?.getD 0 == x) = false := by assumption
      go_round
      case rel => exact ⟨k + 1, by omega, by go_num, hasB_step HN.out hx⟩
      case measure => simp [intOf]; omega
    · have hge : ¬ k < len := by assumption
      go_ret
      have e : k = len := by omega
      subst e
      exact ⟨ret_bool HN.out.symm, rfl⟩

theorem has_any (v : Value) (xs : List Int) (x : Int) (w : World) (hlen : xs.length ≤ 9223372036854775807) (h : Row w v xs) :
    Calls Trym.prog 13 #[v, .int .i64 x] w fun e w' => e = .returned (.bool (hasB xs x)) ∧ w' = w := by
  obtain ⟨ao, cap, rfl, hr⟩ := h
  by_cases h0 : 0 < xs.length
  · obtain ⟨b, off, rfl, hc⟩ := hr h0
    have := has_some b off xs.length cap xs x w hlen (Nat.le_refl _) hc
    rw [List.take_length] at this
    exact this
  · have e : xs = [] := List.eq_nil_of_length_eq_zero (by omega)
    subst e
    exact has_zero ao cap x w

theorem index_zero (ao : Option Addr) (cap : Nat) (x : Int) (w : World) :
    Calls Trym.prog 34 #[.slice ao 0 cap, .int .i64 x] w fun e w' => e = .returned (.int .i64 (-1)) ∧ w' = w := by
  go_enter Trym.func34, Trym.ntmps34
  go_wp2
  refine wp_loop_rounds 1 ?_
  rw [rounds_succ]
  go_wp2
  go_ret
  exact ⟨rfl, rfl⟩

/-- What slices.Index answers: not negative just where x is there. -/
def IndexPost (xs : List Int) (x : Int) (e : Ending) : Prop := ∃ j : Int, e = .returned (.int .i64 j) ∧ decide (0 ≤ j) = hasB xs x

theorem index_some (b off len cap : Nat) (zs : List Int) (x : Int) (w : World) (hlen : len ≤ 9223372036854775807) (hz : len ≤ zs.length)
    (hc : ∀ i, i < len → w.cell? ⟨b, off + i, none⟩ = some (.int .i64 (zs.getD i 0))) :
    Calls Trym.prog 34 #[.slice (some ⟨b, off, none⟩) len cap, .int .i64 x] w fun e w' => IndexPost (zs.take len) x e ∧ w' = w := by
  go_enter Trym.func34, Trym.ntmps34
  go_wp2
  go_loop [8] (fun i => ∃ k : Nat, k ≤ len ∧ i = .int .i64 k ∧ hasB (zs.take k) x = false) (fun i => len - (intOf i).toNat)
  case atStart => exact ⟨0, Nat.zero_le _, rfl, rfl⟩
  case round =>
    obtain ⟨k, hk, rfl, hno⟩ := hrel
    have hcell : k < len → w.cell? ⟨b, off + k, none⟩ = some (.int .i64 (zs.getD k 0)) := fun h => hc k h
    have HN : Hid (hasB (zs.take k) x = false) := hno
    clear hno hc
    go_wp2
    · have hlt : k < len := by assumption
      have hx : (x == zs[k]?.getD 0) = true := by assumption
      go_ret
      exact ⟨⟨k, rfl, by rw [hasB_hit (k := k) (by rw [List.length_take]; omega) (by rw [List.getElem?_take_of_lt hlt, BEq.comm]; exact hx)]; exact decide_eq_true (Int.natCast_nonneg k)⟩, rfl⟩
    · have hlt : k < len := by assumption
      have hx : (x == zs[k]?.getD 0) = false := by assumption
      go_round
      case rel => exact ⟨k + 1, by omega, by go_num, hasB_step HN.out (by rw [BEq.comm]; exact hx)⟩
      case measure => simp [intOf]; omega
    · have hge : ¬ k < len := by assumption
      go_ret
      have e : k = len := by omega
      subst e
      exact ⟨⟨-1, rfl, by rw [HN.out]; decide⟩, rfl⟩

theorem index_any (v : Value) (xs : List Int) (x : Int) (w : World) (hlen : xs.length ≤ 9223372036854775807) (h : Row w v xs) :
    Calls Trym.prog 34 #[v, .int .i64 x] w fun e w' => IndexPost xs x e ∧ w' = w := by
  obtain ⟨ao, cap, rfl, hr⟩ := h
  by_cases h0 : 0 < xs.length
  · obtain ⟨b, off, rfl, hc⟩ := hr h0
    have := index_some b off xs.length cap xs x w hlen (Nat.le_refl _) hc
    rw [List.take_length] at this
    exact this
  · have e : xs = [] := List.eq_nil_of_length_eq_zero (by omega)
    subst e
    exact (index_zero ao cap x w).mono fun e w' ⟨he, hw⟩ => ⟨⟨-1, he, by rw [hasB_nil]; decide⟩, hw⟩

theorem contains_any (v : Value) (xs : List Int) (x : Int) (w : World) (hlen : xs.length ≤ 9223372036854775807) (h : Row w v xs) :
    Calls Trym.prog 31 #[v, .int .i64 x] w fun e w' => e = .returned (.bool (hasB xs x)) ∧ w' = w := by
  go_enter Trym.func31, Trym.ntmps31
  go_wp2_with (go_at_call 34; refine (index_any _ xs _ _ hlen h).mono ?_; rintro e w' ⟨⟨j, rfl, hj⟩, rfl⟩)
  go_ret
  exact ⟨rfl, rfl⟩

theorem fits_next {N k : Nat} (h1 : 0 < (N : Int) - ((k : Int) + 1) + 1) (h2 : (fal N k : Int) ≤ 65536 / ((N : Int) - ((k : Int) + 1) + 1)) :
    wrap64 ((fal N k : Int) * ((N : Int) - ((k : Int) + 1) + 1)) = (fal N (k + 1) : Int) ∧ fal N (k + 1) ≤ 65536 := by
  have h3 := fits_step h1 (by omega : ¬ 65536 / ((N : Int) - ((k : Int) + 1) + 1) < (fal N k : Int))
  have e : (N : Int) - ((k : Int) + 1) + 1 = (N : Int) - k := by omega
  rw [e, fal_int] at h3
  rw [e, fal_int, IntWalk.wrap64_in _ ⟨by omega, by omega⟩]
  exact ⟨rfl, by omega⟩

/-- What zzShapeFits answers. -/
def FitsPost (n f : Int) (e : Ending) : Prop := ∃ r : Bool, e = .returned (.bool r) ∧ (r = true → Fits n f)

set_option maxHeartbeats 400000 in
theorem fits_any (n f : Int) (w : World) :
    Calls Trym.prog 8 #[.int .i64 n, .int .i64 f] w fun e w' => FitsPost n f e ∧ w' = w := by
  by_cases h : n < 0 ∨ f < 0 ∨ 65536 < n ∨ 65536 < f
  · go_enter Trym.func8, Trym.ntmps8
    go_wp2
    all_goals (go_ret; exact ⟨⟨false, rfl, fun h => by cases h⟩, rfl⟩)
  · obtain ⟨N, rfl⟩ : ∃ N : Nat, n = N := ⟨n.toNat, by omega⟩
    obtain ⟨F, rfl⟩ : ∃ F : Nat, f = F := ⟨f.toNat, by omega⟩
    have hN : N ≤ 65536 := by omega
    have hF : F ≤ 65536 := by omega
    have g1 : decide ((N : Int) < 0) = false := by simp
    have g2 : decide ((F : Int) < 0) = false := by simp
    have g3 : decide (65536 < (N : Int)) = false := by simp; omega
    have g4 : decide (65536 < (F : Int)) = false := by simp; omega
    clear h
    go_enter Trym.func8, Trym.ntmps8
    go_wp2
    clear g1 g2 g3 g4
    go_loop [5, 6] (fun p l => ∃ k : Nat, k ≤ F + 1 ∧ l = .int .i64 ((k : Int) + 1) ∧ p = .int .i64 (fal N k) ∧ ∀ j, j ≤ k → fal N j ≤ 65536) (fun _ l => F + 2 - (intOf l).toNat)
    case atStart => exact ⟨0, by omega, rfl, rfl, fun j hj => by rw [Nat.le_zero.1 hj, fal]; omega⟩
    case round =>
      obtain ⟨k, hk, rfl, rfl, hall⟩ := hrel
      have HA : Hid (∀ j, j ≤ k → fal N j ≤ 65536) := hall
      have hb := hall k (Nat.le_refl _)
      clear hall
      go_wp2
      · have h1 : (N : Int) - ((k : Int) + 1) + 1 ≤ 0 := by assumption
        go_ret
        refine ⟨⟨true, rfl, fun _ => ⟨N, F, rfl, rfl, hN, hF, fun l hl => ?_⟩⟩, rfl⟩
        by_cases hlk : l ≤ k
        · exact HA.out l hlk
        · rw [fal_past (by omega : N < l)]; omega
      · go_ret
        exact ⟨⟨false, rfl, fun h => by cases h⟩, rfl⟩
      · have h1 : 0 < (N : Int) - ((k : Int) + 1) + 1 := by assumption
        have h2 : (fal N k : Int) ≤ 65536 / ((N : Int) - ((k : Int) + 1) + 1) := by assumption
        have h0 : k ≤ F := by assumption
        obtain ⟨e, h3⟩ := fits_next h1 h2
        go_round
        case rel => exact ⟨k + 1, by omega, by go_num, by rw [e], fun j hj => by
                      by_cases hjk : j ≤ k
                      · exact HA.out j hjk
                      · rw [show j = k + 1 by omega]; exact h3⟩
        case measure => simp [intOf]; omega
      · have h0 : ¬ k ≤ F := by assumption
        go_ret
        exact ⟨⟨true, rfl, fun _ => ⟨N, F, rfl, rfl, hN, hF, fun l hl => HA.out l (by omega)⟩⟩, rfl⟩

end Go.Proofs.Qxb6602920aMods
