/-
  THE WALKS of zzFalling, zzUsedBefore, zzFirst.
-/
import Derived.Test.Qxb6602920aModsZZ
import Derived.Test.Qxb6602920aModsLexPlain
namespace Go.Proofs.Qxb6602920aMods
open Go.RowKit EIG
set_option linter.unusedVariables false

theorem falling_any (N l : Nat) (w : World) (hN : N ≤ 65536) (hl : l ≤ 65537) (hall : ∀ j, j ≤ l → fal N j ≤ 65536) :
    Calls Trym.prog 10 #[.int .i64 N, .int .i64 l] w fun e w' => e = .returned (.int .i64 (fal N l)) ∧ w' = w := by
  have HALL : Hid (∀ j, j ≤ l → fal N j ≤ 65536) := hall
  clear hall
  go_enter Trym.func10, Trym.ntmps10
  go_wp2
  go_loop [5, 6] (fun p i => ∃ k : Nat, k ≤ l ∧ i = .int .i64 (k : Int) ∧ p = .int .i64 (fal N k)) (fun _ i => l - (intOf i).toNat)
  case atStart => exact ⟨0, Nat.zero_le _, rfl, rfl⟩
  case round =>
    obtain ⟨k, hk, rfl, rfl⟩ := hrel
    by_cases hlt : k < l
    · have he := fal_int N k
      have hb := HALL.out (k + 1) (by omega)
      have h1 : 0 ≤ (fal N k : Int) * ((N : Int) - k) := by rw [he]; omega
      have h2 : (fal N k : Int) * ((N : Int) - k) ≤ 65536 := by rw [he]; omega
      have HE : Hid ((fal N k : Int) * ((N : Int) - k) = (fal N (k + 1) : Int)) := he
      clear he
      by_cases hnk : N ≤ k
      · have e0 := fal_past (show N < l by omega)
        have E0 : Hid (fal N l = 0) := e0
        clear e0
        go_wp2
        go_ret
        exact ⟨ret_int (by rw [E0.out]; rfl), rfl⟩
      · go_wp2
        go_round
        case rel => exact ⟨k + 1, by omega, by go_num, by rw [HE.out]⟩
        case measure => simp [intOf]; omega
    · go_wp2
      have e : k = l := by omega
      subst e
      go_ret
      exact ⟨rfl, rfl⟩

theorem used_any (bt len cap i : Nat) (zs : List Int) (x : Int) (w : World) (hlen : len ≤ 9223372036854775807) (hi : i ≤ len) (hz : i ≤ zs.length)
    (hc : ∀ k, k < i → w.cell? ⟨bt, k, none⟩ = some (.int .i64 (zs.getD k 0))) :
    Calls Trym.prog 27 #[.slice (some ⟨bt, 0, none⟩) len cap, .int .i64 (i : Int), .int .i64 x] w fun e w' => e = .returned (.bool (hasB (zs.take i) x)) ∧ w' = w := by
  go_enter Trym.func27, Trym.ntmps27
  go_wp2
  go_loop [7] (fun t => ∃ k : Nat, k ≤ i ∧ t = .int .i64 k ∧ hasB (zs.take k) x = false) (fun t => i - (intOf t).toNat)
  case atStart => exact ⟨0, Nat.zero_le _, rfl, rfl⟩
  case round =>
    obtain ⟨k, hk, rfl, hno⟩ := hrel
    have hcell : k < i → w.cell? ⟨bt, k, none⟩ = some (.int .i64 (zs.getD k 0)) := fun h => hc k h
    have HN : Hid (hasB (zs.take k) x = false) := hno
    clear hno hc
    go_wp2
    · have hlt : k < i := by assumption
      have hx : (zs[k]?.getD 0 == x) = true := by assumption
      go_ret
      exact ⟨ret_bool (hasB_hit (k := k) (by rw [List.length_take]; omega) (by rw [List.getElem?_take_of_lt hlt]; exact hx)).symm, rfl⟩
    · have hlt : k < i := by assumption
      have hx : (zs[k]?.getD 0 == x) = false := by assumption
      go_round
      case rel => exact ⟨k + 1, by omega, by go_num, hasB_step HN.out hx⟩
      case measure => simp [intOf]; omega
    · have hge : ¬ k < i := by assumption
      go_ret
      have e : k = i := by omega
      subst e
      exact ⟨ret_bool HN.out.symm, rfl⟩

/-- Block bt alone has been written. -/
structure Only (bt : Nat) (w w' : World) : Prop where
  os : w'.os = w.os
  tape : w'.tape = w.tape
  output : w'.output = w.output
  size : w'.heap.size = w.heap.size
  block : ∀ k, k ≠ bt → w'.heap[k]? = w.heap[k]?

theorem Only.refl (bt : Nat) (w : World) : Only bt w w := ⟨rfl, rfl, rfl, rfl, fun _ _ => rfl⟩
theorem Only.setCell {bt : Nat} {w w' : World} (h : Only bt w w') (i : Nat) (v : Value) : Only bt w (w'.setCell ⟨bt, i, none⟩ v) :=
  ⟨h.os, h.tape, h.output, by rw [World.size_setCell]; exact h.size, fun k hk => (Below.heap_setCell _ _ _ _ hk).trans (h.block k hk)⟩
theorem Only.below {bt B : Nat} {w w' : World} (h : Only bt w w') (hB : B ≤ bt) : Below B w w' := ⟨h.os, h.tape, h.output, by rw [h.size]; exact Nat.le_refl _, fun k hk => h.block k (by omega)⟩

/-- The block bt holds the numbers xs. -/
def Tis (w : World) (bt : Nat) (xs : List Int) : Prop := w.rowIs bt 3 xs.length (fun j => .int .i64 (xs.getD j 0))

theorem Tis.set {w : World} {bt : Nat} {xs : List Int} (h : Tis w bt xs) {i : Nat} (hi : i < xs.length) (v : Int) : Tis (w.setCell ⟨bt, i, none⟩ (.int .i64 v)) bt (xs.set i v) := by
  unfold Tis
  rw [List.length_set]
  refine (World.rowIs.set h i (.int .i64 v)).congr (fun j _ => ?_)
  rw [getD_set hi]
  split <;> rfl

theorem Tis.congr {w : World} {bt : Nat} {xs ys : List Int} (h : Tis w bt xs) (hl : xs.length = ys.length) (e : ∀ j, j < ys.length → xs.getD j 0 = ys.getD j 0) : Tis w bt ys := by
  unfold Tis at *
  rw [hl] at h
  exact World.rowIs.congr h (fun j hj => by rw [e j hj])

theorem first_any (bt N : Nat) (xs : List Int) (w : World) (hN : N ≤ 65536) (hl : xs.length ≤ N) (ht : Tis w bt xs) :
    Calls Trym.prog 11 #[.int .i64 N, .slice (some ⟨bt, 0, none⟩) xs.length xs.length] w fun e w' => e = .returned (.bool true) ∧ Only bt w w' ∧ Tis w' bt (lab N xs.length 0) := by
  obtain ⟨L, hL⟩ : ∃ L, L = xs.length := ⟨_, rfl⟩
  rw [← hL] at hl ⊢
  have HL : Hid (L = xs.length) := hL
  clear hL
  go_enter Trym.func11, Trym.ntmps11
  go_wp2
  go_loopw [5] (fun i wr => ∃ k : Nat, k ≤ L ∧ i = .int .i64 (k : Int) ∧ Only bt w wr ∧ ∃ ys : List Int, ys.length = L ∧ Tis wr bt ys ∧ ∀ j, j < k → ys.getD j 0 = (j : Int) + 1) (fun i _ => L - (intOf i).toNat)
  case atStart => exact ⟨0, Nat.zero_le _, rfl, Only.refl _ _, xs, HL.out.symm, ht, fun j hj => absurd hj (Nat.not_lt_zero _)⟩
  case round =>
    obtain ⟨k, hk, rfl, hon, ys, hys, hty, hval⟩ := hrel
    have HY : Hid (ys.length = L) := hys
    have HV : Hid (∀ j, j < k → ys.getD j 0 = (j : Int) + 1) := hval
    by_cases hlt : k < L
    · have hc := World.rowIs.cell hty (i := k) (by omega)
      have hf := World.rowIs.frozen hty k
      clear hys hval
      go_wp2
      go_roundw
      case rel => exact ⟨k + 1, by omega, by go_num, hon.setCell _ _, ys.set k ((k : Int) + 1), by rw [List.length_set]; exact HY.out, hty.set (by rw [HY.out]; exact hlt) _, fun j hj => by
                    rw [getD_set (by rw [HY.out]; exact hlt)]
                    by_cases e : j = k
                    · subst e; simp
                    · rw [if_neg e]; exact HV.out j (by omega)⟩
      case measure => simp [intOf]; omega
    · clear hys hval
      go_wp2
      go_ret
      have e : k = L := by omega
      obtain ⟨f0, f1⟩ := lab_first hl
      exact ⟨rfl, hon, hty.congr (by rw [HY.out, (good_lab f0).len]) (fun j hj => by
        rw [(good_lab f0).len] at hj
        rw [HV.out j (by omega), f1 j hj])⟩

end Go.Proofs.Qxb6602920aMods
