/-
  THE WALK OF 'FnEIGShapeLexEnumeration'.
-/
import Derived.Test.Qxb6602920aModsLexNext
import Derived.Deep.QuietTactic
import Derived.BigQuiet
namespace Go.Proofs.Qxb6602920aMods
open Go.RowKit EIG
set_option linter.unusedVariables false

theorem below_drews {B : Nat} {a w : World} (h : Below B a w) (n : Nat) : Below B a (w.drewN n) := h.trans ⟨rfl, rfl, rfl, Nat.le_refl _, fun _ _ => rfl⟩

theorem Tis.below {w w' : World} {bt : Nat} {xs : List Int} (h : Tis w bt xs) (hb : Below w.heap.size w w') : Tis w' bt xs := World.rowIs.of_block h (hb.block _ (World.rowIs.lt h))

theorem first_any' (bt N L : Nat) (xs : List Int) (w : World) (hxs : xs.length = L) (hN : N ≤ 65536) (hl : L ≤ N) (ht : Tis w bt xs) :
    Calls Trym.prog 11 #[.int .i64 N, .slice (some ⟨bt, 0, none⟩) L L] w fun e w' => e = .returned (.bool true) ∧ Only bt w w' ∧ Tis w' bt (lab N L 0) := by
  subst hxs
  exact first_any bt N xs w hN hl ht

theorem next_any' (bt N L q : Nat) (w : World) (hN : N ≤ 65536) (hl : L ≤ N) (hq : q < fal N L) (ht : Tis w bt (lab N L q)) :
    Calls Trym.prog 12 #[.int .i64 N, .slice (some ⟨bt, 0, none⟩) L L] w fun e w' => NextPost bt N L q w e w' := by
  obtain ⟨a, ha, hA⟩ := anc_exists hq
  have hlen := (good_lab hq).len
  have h := next_any bt N (lab N L q) a w hN (by rw [hlen]; exact hl) (by rw [hlen]; exact hA) ht
  rw [hlen, ha] at h
  exact h

theorem tis_made (w : World) (n : Nat) : Tis (w.alloc (.cells (madeCells #[.int .i64 0] n) 3)) w.heap.size (List.replicate n 0) := by
  unfold Tis
  rw [List.length_replicate]
  refine (World.rowIs_made w (.int .i64 0) n 3).congr (fun i hi => ?_)
  rw [List.getD_eq_getElem?_getD, List.getElem?_replicate, if_pos hi]
  rfl

/-- At the head of the enumeration's loop. -/
def Enu (w1 wr : World) (bt N L : Nat) (s11 : Value) (q : Nat) : Prop :=
  Below w1.heap.size w1 wr ∧ ((s11 = .bool true ∧ q < fal N L ∧ Tis wr bt (lab N L q)) ∨ (s11 = .bool false ∧ q = fal N L))

theorem enu_start {w1 wo w2 : World} {N L : Nat} {o : Obj} (hb : Below w1.heap.size w1 wo) (hL : L ≤ N) (hon : Only wo.heap.size (wo.alloc o) w2) (ht : Tis w2 wo.heap.size (lab N L 0)) : Enu w1 w2 wo.heap.size N L (.bool true) 0 :=
  ⟨(hb.alloc hb.size o).trans (hon.below hb.size), .inl ⟨rfl, (lab_first hL).1, ht⟩⟩

theorem enu_next {w1 wr wx w' : World} {bt N L q : Nat} {e : Ending} (hb : Below w1.heap.size w1 wr) (hbt : w1.heap.size ≤ bt) (hx : Below wr.heap.size wr wx) (h : NextPost bt N L q wx e w') :
    ∃ b, e = .returned (.bool b) ∧ Enu w1 w' bt N L (.bool b) (q + 1) := by
  obtain ⟨hon, h⟩ := h
  have hb2 := (hb.trans (hx.mono hb.size)).trans (hon.below hbt)
  rcases h with ⟨rfl, h1, h2⟩ | ⟨rfl, h1⟩
  · exact ⟨true, rfl, hb2, .inl ⟨rfl, h1, h2⟩⟩
  · exact ⟨false, rfl, hb2, .inr ⟨rfl, h1⟩⟩

theorem prod_q {N k q Lr : Nat} (hq : q < fal N (k + 1)) (hL : Lr = fal N (k + 1) * (k + 1)) :
    ((q : Int) + 1) * ((k : Int) + 1) ≤ (Lr : Int) ∧ 0 ≤ ((q : Int) + 1) * ((k : Int) + 1) ∧ 0 ≤ (q : Int) * ((k : Int) + 1) ∧ (q : Int) * ((k : Int) + 1) + k < (Lr : Int) ∧ q * (k + 1) + k < fal N (k + 1) * (k + 1) := by
  have h1 : (q + 1) * (k + 1) ≤ fal N (k + 1) * (k + 1) := Nat.mul_le_mul_right _ hq
  have h2 := h1
  rw [Nat.succ_mul] at h2
  have e1 : ((q : Int) + 1) * ((k : Int) + 1) = (((q + 1) * (k + 1) : Nat) : Int) := by rw [Int.natCast_mul]; rfl
  have e2 : (q : Int) * ((k : Int) + 1) = ((q * (k + 1) : Nat) : Int) := by rw [Int.natCast_mul]; rfl
  rw [e1, e2]
  omega

set_option maxHeartbeats 1000000 in
set_option maxRecDepth 100000 in
theorem lex_any (n f : Int) (w : World) :
    Calls Trym.prog 3 #[.int .i64 n, .int .i64 f] w fun e w' => e = .returned (.bool true) ∧ Below w.heap.size w w' := by
  go_enter Trym.func3, Trym.ntmps3
  go_wp2_with (go_at_call 8; refine (fits_any n f _).mono ?_; rintro e w' ⟨⟨r, rfl, hr⟩, hw⟩; obtain rfl : w = w' := hw.symm)
  · go_ret
    exact ⟨rfl, Below.refl _ _⟩
  · have hr' : r = true := by cases r <;> simp_all
    subst hr'
    obtain ⟨N, F, rfl, rfl, hN, hF, hall⟩ := hr rfl
    have HALL : Hid (∀ l, l ≤ F + 1 → fal N l ≤ 65536) := hall
    clear hr hall
    go_wp2_with (go_at_call 9; refine (zz_any N F _ hN hF HALL.out).mono ?_; rintro e w1 ⟨bs, bz, bm, mem, rfl, hbel, hsh, hrs⟩)
    go_loopw [7] (fun i wr => ∃ k : Nat, k ≤ F + 2 ∧ i = .int .i64 (k : Int) ∧ Below w1.heap.size w1 wr) (fun i _ => F + 2 - (intOf i).toNat)
    case atStart => exact ⟨0, by omega, rfl, Below.refl _ _⟩
    case round =>
      rename World => wo
      obtain ⟨k, hk, rfl, hb⟩ := hrel
      by_cases hlt : k ≤ F + 1
      · have hz0 := (hsh.below hb).sizes.cell (i := k) (by omega)
        have hall' : ∀ j, j ≤ k → fal N j ≤ 65536 := fun j hj => HALL.out j (by omega)
        have HALL' : Hid (∀ j, j ≤ k → fal N j ≤ 65536) := hall'
        clear hall'
        have hix : (k : Int) < (F : Int) + 2 := by omega
        go_wp2
        go_quiet ((go_at_call 10; exact Calls.quiet_of_same (falling_any N k _ hN (by omega) HALL'.out)))
        go_wp2
        go_roundw
        case rel => exact ⟨k + 1, by omega, by go_num, below_drews hb _⟩
        case measure => simp [intOf]; omega
      · have hm0 := (hsh.below hb).mems.cell (i := 0) (by omega)
        rw [hrs.nil] at hm0
        have hix : (0 : Int) < (F : Int) + 1 := by omega
        go_wp2
        clear hm0 hix hlt hk
        go_loopw [8] (fun i wr => ∃ k : Nat, k ≤ F ∧ i = .int .i64 ((k : Int) + 1) ∧ Below w1.heap.size w1 wr) (fun i _ => F + 1 - (intOf i).toNat)
        case atStart => exact ⟨0, by omega, rfl, hb⟩
        case round =>
          clear hb
          rename World => wo2
          obtain ⟨k, hk, rfl, hb⟩ := hrel
          by_cases hlt : k < F
          · obtain ⟨br, hrw⟩ := hrs.rows (k + 1) (by omega) (by omega)
            have hmc := (hsh.below hb).mems.cell (i := k + 1) (by omega)
            rw [hrw.val] at hmc
            obtain ⟨Lr, hLr⟩ : ∃ L, L = fal N (k + 1) * (k + 1) := ⟨_, rfl⟩
            rw [← hLr] at hmc
            have LR : Hid (Lr = fal N (k + 1) * (k + 1)) := hLr
            have f1 := HALL.out (k + 1) (by omega)
            have q1 : fal N (k + 1) * (k + 1) ≤ 65536 * 65536 := Nat.mul_le_mul f1 (by omega)
            rw [← hLr] at q1
            clear hLr
            by_cases hnk : N ≤ k
            · have e0 : Lr = 0 := by rw [LR.out, fal_past (by omega : N < k + 1), Nat.zero_mul]
              subst e0
              go_wp2
              go_roundw
              case rel => exact ⟨k + 1, by omega, by go_num, hb⟩
              case measure => simp [intOf]; omega
            · have hmk := run_make_row' (P := Trym.prog) 23 3 (.int .i64 0) 8 Trym.underlying23 Trym.info3 rfl .i64 .i64 (k + 1) (by omega) (by omega)
              rw [show ((k + 1 : Nat) : Int) = (k : Int) + 1 by omega] at hmk
              go_wp2_with (go_at_call 11; refine (first_any' wo2.heap.size N (k + 1) (List.replicate (k + 1) 0) _ List.length_replicate hN (by omega) (tis_made wo2 (k + 1))).mono ?_; rintro e w2 ⟨rfl, hon, htis⟩)
              have hen := enu_start hb (by omega : k + 1 ≤ N) hon htis
              have hbt := hb.size
              obtain ⟨bt, hbe⟩ : ∃ bt, bt = wo2.heap.size := ⟨_, rfl⟩
              rw [← hbe] at hen hbt ⊢
              clear hon htis hmk hb hmc hbe
              go_loopw [11, 12] (fun s11 s12 wr => ∃ q : Nat, s12 = .int .i64 (q : Int) ∧ q ≤ fal N (k + 1) ∧ Enu w1 wr bt N (k + 1) s11 q) (fun _ s12 _ => fal N (k + 1) - (intOf s12).toNat)
              case atStart => exact ⟨0, rfl, Nat.zero_le _, hen⟩
              case round =>
                clear hen
                rename World => wo3
                obtain ⟨q, rfl, hqf, hb, ⟨rfl, hq, htis⟩ | ⟨rfl, hq⟩⟩ := hrel
                · obtain ⟨g1, g2, g3, g4, g5⟩ := prod_q hq LR.out
                  go_wp2
                  go_loopw [13] (fun t wr => ∃ i : Nat, i ≤ k + 1 ∧ t = .int .i64 (i : Int) ∧ Below wo3.heap.size wo3 wr) (fun t _ => k + 1 - (intOf t).toNat)
                  case atStart => exact ⟨0, by omega, rfl, Below.refl _ _⟩
                  case round =>
                    obtain ⟨i, hi, rfl, hb3⟩ := hrel
                    by_cases hil : i < k + 1
                    · have hrc := ((hrw.is.of_block (hb.block br hrw.is.lt)).of_block (hb3.block br (Nat.lt_of_lt_of_le hrw.is.lt hb.size))).cell (i := q * (k + 1) + i) (by omega)
                      rw [row_getD hq hil] at hrc
                      have htc := World.rowIs.cell (htis.below hb3) (i := i) (by rw [(good_lab hq).len]; exact hil)
                      go_wp2
                      go_region
                      all_goals
                        go_wp2
                        go_roundw
                        case rel => exact ⟨i + 1, by omega, by go_num, hb3.drew⟩
                        case measure => simp [intOf]; omega
                    · go_wp2_with (go_at_call 12; refine (next_any' bt N (k + 1) q _ hN (by omega) hq (htis.below hb3)).mono ?_; intro e w' hnp; obtain ⟨b, rfl, hen⟩ := enu_next hb hbt hb3 hnp; clear hnp)
                      go_roundw
                      case rel => exact ⟨q + 1, by go_num, by omega, hen⟩
                      case measure => simp [intOf]; omega
                · have h1 : 0 ≤ (fal N (k + 1) : Int) * ((k : Int) + 1) := Int.mul_nonneg (by omega) (by omega)
                  have h2 : (fal N (k + 1) : Int) * ((k : Int) + 1) = (Lr : Int) := by rw [LR.out, Int.natCast_mul]; rfl
                  have h3 : (fal N (k + 1) : Int) * ((k : Int) + 1) ≤ 4294967296 := by rw [h2]; omega
                  have h4 : (((fal N (k + 1) : Int) * ((k : Int) + 1)) != (Lr : Int)) = false := by rw [h2]; simp
                  clear h2
                  go_wp2
                  go_roundw
                  case rel => exact ⟨k + 1, by omega, by go_num, hb⟩
                  case measure => simp [intOf]; omega
          · go_wp2
            go_ret
            exact ⟨rfl, hbel.trans (hb.mono hbel.size)⟩

end Go.Proofs.Qxb6602920aMods
