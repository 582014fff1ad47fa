/-
  THE WALK of zzNext: the label behind a label.
-/
import Derived.Test.Qxb6602920aModsLexSmall
namespace Go.Proofs.Qxb6602920aMods
open Go.RowKit EIG
set_option linter.unusedVariables false

/-- What zzNext leaves: the next label, or 'no more'. -/
def NextPost (bt N L q : Nat) (w : World) (e : Ending) (w' : World) : Prop :=
  Only bt w w' ∧ ((e = .returned (.bool true) ∧ q + 1 < fal N L ∧ Tis w' bt (lab N L (q + 1))) ∨ (e = .returned (.bool false) ∧ q + 1 = fal N L))

/-- The first j numbers are those of the next label; 1 to y are among them. -/
structure Fil (bt N L : Nat) (a : Nat → Nat) (w wr : World) (j y : Nat) (cur : List Int) : Prop where
  only : Only bt w wr
  len : cur.length = L
  tis : Tis wr bt cur
  pre : cur.take j = lab N j (a j + 1)
  lt : a j + 1 < fal N j
  used : ∀ u : Nat, u < y → hasB (cur.take j) ((u : Int) + 1) = true

theorem fil_start {bt N i : Nat} {t : List Int} {a : Nat → Nat} {w : World} {v : Int} (hA : Anc N t.length t a) (ht : Tis w bt t) (hi : i < t.length) (hv1 : t.getD i 0 < v) (hv2 : v ≤ (N : Int)) (hv : hasB (t.take i) v = false)
    (hb : ∀ u : Int, t.getD i 0 < u → u < v → hasB (t.take i) u = true) : Fil bt N t.length a w (w.setCell ⟨bt, i, none⟩ (.int .i64 v)) (i + 1) 0 (t.set i v) := by
  obtain ⟨h1, h2⟩ := raise_step hA hi hv1 hv2 hv hb
  exact ⟨(Only.refl _ _).setCell _ _, List.length_set, ht.set hi v, by rw [take_set_succ hi, h2], h1, fun u hu => absurd hu (Nat.not_lt_zero _)⟩

theorem hasB_append_left {xs : List Int} {x y : Int} (h : hasB xs x = true) : hasB (xs ++ [y]) x = true := by
  unfold hasB at *
  rw [List.contains_iff_mem] at *
  exact List.mem_append.2 (.inl h)

theorem hasB_append_self (xs : List Int) (x : Int) : hasB (xs ++ [x]) x = true := by
  unfold hasB
  rw [List.contains_iff_mem]
  simp

theorem fil_step {bt N L j y : Nat} {t : List Int} {a : Nat → Nat} {w wr : World} {cur : List Int} (hA : Anc N L t a) (hd : Done N t j) (hj : j < L) (hLN : L ≤ N) (h : Fil bt N L a w wr j y cur) (hy : hasB (cur.take j) ((y : Int) + 1) = false) :
    Fil bt N L a w (wr.setCell ⟨bt, j, none⟩ (.int .i64 ((y : Int) + 1))) (j + 1) (y + 1) (cur.set j ((y : Int) + 1)) := by
  have hjc : j < cur.length := by rw [h.len]; exact hj
  have hu := h.used
  have hpre := h.pre
  rw [hpre] at hu hy
  have hyj := pigeon h.lt hu
  obtain ⟨k1, k2⟩ := first_kid h.lt (by omega : y < N) hy hu
  rw [← done_step hA hj hd] at k1 k2
  refine ⟨h.only.setCell _ _, by rw [List.length_set]; exact h.len, h.tis.set hjc _, by rw [take_set_succ hjc, k2, hpre], k1, fun u hu' => ?_⟩
  rw [take_set_succ hjc]
  by_cases e : u = y
  · subst e; exact hasB_append_self _ _
  · exact hasB_append_left (h.used u (by omega))

theorem fil_end {bt N L y : Nat} {a : Nat → Nat} {w wr : World} {cur : List Int} (h : Fil bt N L a w wr L y cur) : Tis wr bt (lab N L (a L + 1)) := by
  have e := h.pre
  rw [List.take_of_length_le (by rw [h.len]; exact Nat.le_refl _)] at e
  rw [← e]
  exact h.tis

theorem anc_range {N l : Nat} {t : List Int} {a : Nat → Nat} (h : Anc N l t a) {j : Nat} (hj : j < l) : 1 ≤ t.getD j 0 ∧ t.getD j 0 ≤ (N : Int) := by
  obtain ⟨m, r, hm, hmN, _⟩ := anc_kid h hj
  rw [hm]
  omega

/-- All numbers between x and v are among the first i. -/
def Btw (t : List Int) (i : Nat) (x v : Int) : Prop := ∀ u : Int, x < u → u < v → hasB (t.take i) u = true

theorem btw_start (t : List Int) (i : Nat) (x : Int) : Btw t i x (x + 1) := fun u h1 h2 => by omega
theorem btw_step {t : List Int} {i : Nat} {x v : Int} (h : Btw t i x v) (hv : hasB (t.take i) v = true) : Btw t i x (v + 1) := fun u h1 h2 => by
  by_cases e : u = v
  · rw [e]; exact hv
  · exact h u h1 (by omega)
theorem btw_done {N : Nat} {t : List Int} {i : Nat} {x v : Int} (h : Btw t i x v) (hx : x = t.getD i 0) (hv : (N : Int) < v) : Done N t i := fun u h1 h2 => h u (by omega) (by omega)

/-- 1 to y are among the first j. -/
def Low (cur : List Int) (j y : Nat) : Prop := ∀ u : Nat, u < y → hasB (cur.take j) ((u : Int) + 1) = true

theorem low_step {cur : List Int} {j y : Nat} (h : Low cur j y) (hy : hasB (cur.take j) ((y : Int) + 1) = true) : Low cur j (y + 1) := fun u hu => by
  by_cases e : u = y
  · rw [e]; exact hy
  · exact h u (by omega)

theorem low_le {bt N L j y y' : Nat} {a : Nat → Nat} {w wr : World} {cur : List Int} (h : Fil bt N L a w wr j y cur) (hl : Low cur j y') : y' ≤ j := by
  refine pigeon h.lt (fun u hu => ?_)
  rw [← h.pre]
  exact hl u hu

theorem fil_low {bt N L j y y' : Nat} {a : Nat → Nat} {w wr : World} {cur : List Int} (h : Fil bt N L a w wr j y cur) (hl : Low cur j y') : Fil bt N L a w wr j y' cur := { h with used := hl }

set_option maxHeartbeats 1000000 in
set_option maxRecDepth 100000 in
theorem next_any (bt N : Nat) (t : List Int) (a : Nat → Nat) (w : World) (hN : N ≤ 65536) (hl : t.length ≤ N) (hA : Anc N t.length t a) (ht : Tis w bt t) :
    Calls Trym.prog 12 #[.int .i64 N, .slice (some ⟨bt, 0, none⟩) t.length t.length] w fun e w' => NextPost bt N t.length (a t.length) w e w' := by
  obtain ⟨L, hL⟩ : ∃ L, L = t.length := ⟨_, rfl⟩
  rw [← hL] at hl ⊢
  have HL : Hid (L = t.length) := hL
  clear hL
  go_enter Trym.func12, Trym.ntmps12
  go_wp2
  go_loop [5] (fun s => ∃ k : Nat, k ≤ L ∧ s = .int .i64 ((k : Int) - 1) ∧ ∀ j, k ≤ j → j < L → Done N t j) (fun s => (intOf s + 1).toNat)
  case atStart => exact ⟨L, Nat.le_refl _, rfl, fun j h1 h2 => by omega⟩
  case round =>
    obtain ⟨k, hk, rfl, hdone⟩ := hrel
    have HD : Hid (∀ j, k ≤ j → j < L → Done N t j) := hdone
    clear hdone
    by_cases h0 : k = 0
    · subst h0
      go_wp2
      go_ret
      exact ⟨Only.refl _ _, .inr ⟨rfl, by rw [HL.out]; exact all_done hA (fun j hj => HD.out j (by omega) (by rw [HL.out]; exact hj))⟩⟩
    · obtain ⟨i, rfl⟩ : ∃ i, k = i + 1 := ⟨k - 1, by omega⟩
      have e1 : ((i + 1 : Nat) : Int) - 1 = (i : Int) := by omega
      rw [e1]
      clear e1 h0
      have hci := World.rowIs.cell ht (i := i) (by rw [← HL.out]; omega)
      obtain ⟨hx1, hx2⟩ := anc_range hA (j := i) (by rw [← HL.out]; omega)
      obtain ⟨x, hx⟩ : ∃ x, x = t.getD i 0 := ⟨_, rfl⟩
      rw [← hx] at hci hx1 hx2
      have HX : Hid (x = t.getD i 0) := hx
      clear hx
      have hcells : ∀ k, k < i → w.cell? ⟨bt, k, none⟩ = some (.int .i64 (t.getD k 0)) := fun k hk' => World.rowIs.cell ht (i := k) (by rw [← HL.out]; omega)
      have HC : Hid (∀ k, k < i → w.cell? ⟨bt, k, none⟩ = some (.int .i64 (t.getD k 0))) := hcells
      clear hcells
      go_wp2
      go_loop [6] (fun s => ∃ v : Int, x < v ∧ v ≤ (N : Int) + 1 ∧ s = .int .i64 v ∧ Btw t i x v) (fun s => ((N : Int) + 1 - intOf s).toNat)
      case atStart => exact ⟨x + 1, by omega, by omega, rfl, btw_start t i x⟩
      case round =>
        obtain ⟨v, hv1, hv2, rfl, hbtw⟩ := hrel
        by_cases hvN : v ≤ (N : Int)
        · have hdv : decide (v ≤ (N : Int)) = true := by simpa using hvN
          cases hh : hasB (t.take i) v with
          | true =>
            have HH : Hid (hasB (t.take i) v = true) := hh
            go_wp2_with (go_at_call 27; refine (used_any bt L L i t v _ (by omega) (by omega) (by rw [← HL.out]; omega) HC.out).mono ?_; rintro e w' ⟨rfl, hw⟩; obtain rfl : w = w' := hw.symm)
            go_round
            case rel => exact ⟨v + 1, by omega, by omega, by go_num, btw_step hbtw HH.out⟩
            case measure => simp [intOf]; omega
          | false =>
            have HH : Hid (hasB (t.take i) v = false) := hh
            have hfz := World.rowIs.frozen ht i
            go_wp2_with (go_at_call 27; refine (used_any bt L L i t v _ (by omega) (by omega) (by rw [← HL.out]; omega) HC.out).mono ?_; rintro e w' ⟨rfl, hw⟩; obtain rfl : w = w' := hw.symm)
            have hfil := fil_start hA ht (by rw [← HL.out]; omega) (by rw [← HX.out]; exact hv1) hvN HH.out (by rw [← HX.out]; exact hbtw)
            rw [← HL.out] at hfil
            have hAL : Anc N L t a := by rw [HL.out]; exact hA
            clear hci hfz hdv hh HC hbtw hA
            go_loopw [7, 8] (fun s7 s8 wr => ∃ j y : Nat, i + 1 ≤ j ∧ j ≤ L ∧ s8 = .int .i64 (j : Int) ∧ s7 = .int .i64 ((y : Int) + 1) ∧ ∃ cur, Fil bt N L a w wr j y cur) (fun _ s8 _ => L - (intOf s8).toNat)
            case atStart => exact ⟨i + 1, 0, Nat.le_refl _, by omega, by go_num, rfl, _, hfil⟩
            case round =>
              clear hfil
              rename World => wo
              obtain ⟨j, y, hij, hjL, rfl, rfl, cur, hfil⟩ := hrel
              by_cases hjl : j < L
              · have hyj := low_le hfil hfil.used
                have hcells : ∀ k, k < j → wo.cell? ⟨bt, k, none⟩ = some (.int .i64 (cur.getD k 0)) := fun k hk' => World.rowIs.cell hfil.tis (i := k) (by rw [hfil.len]; omega)
                have HC : Hid (∀ k, k < j → wo.cell? ⟨bt, k, none⟩ = some (.int .i64 (cur.getD k 0))) := hcells
                have hlow : Low cur j y := hfil.used
                have hcl : j ≤ cur.length := by rw [hfil.len]; omega
                clear hcells
                go_wp2
                go_loop [7] (fun s7 => ∃ z : Nat, z ≤ j ∧ s7 = .int .i64 ((z : Int) + 1) ∧ Low cur j z) (fun s7 => N + 1 - (intOf s7).toNat)
                case atStart => exact ⟨y, hyj, rfl, hlow⟩
                case round =>
                  clear hlow hyj
                  obtain ⟨z, hzj, rfl, hlow⟩ := hrel
                  cases hh : hasB (cur.take j) ((z : Int) + 1) with
                  | true =>
                    have HH2 : Hid (hasB (cur.take j) ((z : Int) + 1) = true) := hh
                    have hzj' := low_le hfil (low_step hlow hh)
                    go_wp2_with (go_at_call 27; refine (used_any bt L L j cur ((z : Int) + 1) _ (by omega) (by omega) hcl HC.out).mono ?_; rintro e w' ⟨rfl, hw⟩; obtain rfl : wo = w' := hw.symm)
                    go_round
                    case rel => exact ⟨z + 1, by omega, by go_num, low_step hlow HH2.out⟩
                    case measure => simp [intOf]; omega
                  | false =>
                    have HH2 : Hid (hasB (cur.take j) ((z : Int) + 1) = false) := hh
                    have hcj := World.rowIs.cell hfil.tis (i := j) (by rw [hfil.len]; exact hjl)
                    have hfj := World.rowIs.frozen hfil.tis j
                    go_wp2_with (go_at_call 27; refine (used_any bt L L j cur ((z : Int) + 1) _ (by omega) (by omega) hcl HC.out).mono ?_; rintro e w' ⟨rfl, hw⟩; obtain rfl : wo = w' := hw.symm)
                    have hfil2 := fil_step hAL (HD.out j hij hjl) hjl hl (fil_low hfil hlow) HH2.out
                    go_roundw
                    case rel => exact ⟨j + 1, z + 1, by omega, by omega, by go_num, by go_num, _, hfil2⟩
                    case measure => simp [intOf]; omega
              · have e : j = L := by omega
                subst e
                go_wp2
                go_ret
                exact ⟨hfil.only, .inl ⟨rfl, hfil.lt, fil_end hfil⟩⟩
        · have hdv : decide (v ≤ (N : Int)) = false := by simpa using hvN
          go_wp2
          have hdi := btw_done hbtw HX.out (by omega : (N : Int) < v)
          go_round
          case rel => exact ⟨i, by omega, by go_num, fun j h1 h2 => by
                        by_cases e : j = i
                        · rw [e]; exact hdi
                        · exact HD.out j (by omega) h2⟩
          case measure => simp [intOf]

end Go.Proofs.Qxb6602920aMods
