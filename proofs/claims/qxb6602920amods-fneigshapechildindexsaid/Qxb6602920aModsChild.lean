/-
  THE WALK OF 'FnEIGShapeChildIndex'.
-/
import Derived.Test.Qxb6602920aModsZZ
namespace Go.Proofs.Qxb6602920aMods
open Go.RowKit EIG
set_option linter.unusedVariables false

/-- Row k of 'members', nil where k = 0. -/
theorem mem_val {B : Nat} {w : World} {bs bz bm N F k : Nat} {z : Nat → Int} {mem : Nat → Value} (hsh : Sh B w bs bz bm N F z mem) (hr : Rws B w bs bz bm N F mem) (hk : k ≤ F) :
    ∃ ap, mem k = .slice ap (fal N k * k) (fal N k * k) ∧ w.cell? ⟨bm, k, none⟩ = some (.slice ap (fal N k * k) (fal N k * k)) := by
  have hm := hsh.mems.cell (i := k) (by omega)
  by_cases h0 : k = 0
  · subst h0
    have := hr.nil
    exact ⟨none, by rw [this]; rfl, by rw [hm, this]; rfl⟩
  · obtain ⟨b, hb⟩ := hr.rows k (by omega) hk
    exact ⟨_, hb.val, by rw [hm, hb.val]⟩

/-- The slice of label p out of its row, as the law cuts it; and where its numbers lie. -/
theorem cut_lab {B : Nat} {w : World} {bs bz bm N F k p : Nat} {mem : Nat → Value} (hr : Rws B w bs bz bm N F mem) (hk : k ≤ F) (hF : F ≤ 65536) (hp : p < fal N k) (hf : fal N k ≤ 65536) {ap : Option Addr}
    (hv : mem k = .slice ap (fal N k * k) (fal N k * k)) :
    ∃ ad cs, (∀ wx, (Instr.slice 23 (.slice ap (fal N k * k) (fal N k * k)) (some (.int .i64 ((p : Int) * k))) (some (.int .i64 (((p : Int) + 1) * k))) none).run Trym.prog wx = .ok (.slice ad k cs) wx) ∧ Src w ad cs (lab N k p) := by
  obtain ⟨i1, i2, i3⟩ := lab_index hp
  have hrun : ∀ wx, (Instr.slice 23 (.slice ap (fal N k * k) (fal N k * k)) (some (.int .i64 ((p : Int) * k))) (some (.int .i64 (((p : Int) + 1) * k))) none).run Trym.prog wx = .ok (.slice (if fal N k * k = p * k then ap else ap.map (·.add (p * k))) k (fal N k * k - p * k)) wx := by
    intro wx
    rw [run_slice_lh wx 23 ap _ _ Trym.underlying23 .i64 .i64 _ _ i2 i3 i1]
    have e1 : ((p : Int) * (k : Int)).toNat = p * k := by rw [← Int.natCast_mul]; rfl
    have e2 : (((p : Int) + 1) * (k : Int)).toNat = (p + 1) * k := by rw [show (p : Int) + 1 = ((p + 1 : Nat) : Int) from rfl, ← Int.natCast_mul]; rfl
    have e3 : (p + 1) * k - p * k = k := by rw [Nat.succ_mul]; omega
    simp [go_sem, e1, e2, e3]
  refine ⟨_, _, hrun, ?_⟩
  by_cases h0 : k = 0
  · subst h0
    have := hr.nil
    rw [this] at hv
    simp only [Nat.mul_zero, Value.slice.injEq] at hv
    rw [← hv.1]
    exact .inl ⟨by split <;> rfl, by omega, List.eq_nil_of_length_eq_zero (good_lab hp).len⟩
  · obtain ⟨b, hrow⟩ := hr.rows k (by omega) hk
    have hval := hrow.val
    rw [hv] at hval
    simp only [Value.slice.injEq, and_true] at hval
    subst hval
    have hlt : (p + 1) * k ≤ fal N k * k := Nat.mul_le_mul_right _ hp
    rw [Nat.succ_mul] at hlt
    rw [if_neg (by omega)]
    refine .inr ⟨b, p * k, by show some ((⟨b, 0, none⟩ : Addr).add (p * k)) = _; rw [Addr.add_lit, Nat.zero_add], hrow.is.lt, fun i hi => ?_⟩
    rw [(good_lab hp).len] at hi
    rw [hrow.is.cell (by omega), row_getD hp hi]

set_option maxHeartbeats 1000000 in
set_option maxRecDepth 100000 in
theorem child_any (n f : Int) (w : World) :
    Calls Trym.prog 4 #[.int .i64 n, .int .i64 f] w fun e w' => e = .returned (.bool true) ∧ Below w.heap.size w w' := by
  go_enter Trym.func4, Trym.ntmps4
  go_wp2_with (go_at_call 8; refine (fits_any n f _).mono ?_; rintro e w' ⟨⟨r, rfl, hr⟩, hw⟩; obtain rfl : w = w' := hw.symm)
  · go_ret
    exact ⟨rfl, Below.refl _ _⟩
  · have hr' : r = true := by cases r <;> simp_all
    subst hr'
    obtain ⟨N, F, rfl, rfl, hN, hF, hall⟩ := hr rfl
    have HALL : Hid (∀ l, l ≤ F + 1 → fal N l ≤ 65536) := hall
    clear hr hall
    go_wp2_with (go_at_call 9; refine (zz_any N F _ hN hF HALL.out).mono ?_; rintro e w1 ⟨bs, bz, bm, mem, rfl, hbel, hsh, hrs⟩)
    go_loopw [7] (fun i wr => ∃ k : Nat, k ≤ F ∧ k ≤ N ∧ i = .int .i64 (k : Int) ∧ Below w1.heap.size w1 wr) (fun i _ => F - (intOf i).toNat)
    case atStart => exact ⟨0, by omega, by omega, rfl, Below.refl _ _⟩
    case round =>
      rename World => wo
      obtain ⟨k, hkF, hkN, rfl, hb⟩ := hrel
      by_cases hlt : k < F
      · by_cases hltN : k < N
        · have hkN' : decide ((k : Int) < (N : Int)) = true := by simpa using hltN
          obtain ⟨ap, hvp, hcp⟩ := mem_val (hsh.below hb) (hrs.below hb) (show k ≤ F by omega)
          obtain ⟨bc, hrc⟩ := hrs.rows (k + 1) (by omega) (by omega)
          have hcc := (hsh.below hb).mems.cell (i := k + 1) (by omega)
          rw [hrc.val] at hcc
          have hz0 := (hsh.below hb).sizes.cell (i := k) (by omega)
          have hz1 := (hsh.below hb).sizes.cell (i := k + 1) (by omega)
          obtain ⟨Lp, hLp⟩ : ∃ L, L = fal N k * k := ⟨_, rfl⟩
          obtain ⟨Lc, hLc⟩ : ∃ L, L = fal N (k + 1) * (k + 1) := ⟨_, rfl⟩
          rw [← hLp] at hvp hcp
          rw [← hLc] at hcc
          have e1 : ((Lp : Int) != (fal N k : Int) * (k : Int)) = false := by rw [hLp, Int.natCast_mul]; simp
          have e2 : ((Lc : Int) != (fal N (k + 1) : Int) * ((k : Int) + 1)) = false := by rw [hLc, Int.natCast_mul]; simp
          have VP : Hid (mem k = .slice ap Lp Lp) := hvp
          have LP : Hid (Lp = fal N k * k) := hLp
          have LC : Hid (Lc = fal N (k + 1) * (k + 1)) := hLc
          have f0 := HALL.out k (by omega)
          have f1 := HALL.out (k + 1) (by omega)
          have q0 : fal N k * k ≤ 65536 * 65536 := Nat.mul_le_mul f0 (by omega)
          have q1 : fal N (k + 1) * (k + 1) ≤ 65536 * 65536 := Nat.mul_le_mul f1 (by omega)
          rw [← hLp] at q0
          rw [← hLc] at q1
          have q2 : 0 ≤ (fal N k : Int) * (k : Int) := by rw [← Int.natCast_mul]; omega
          have q3 : (fal N k : Int) * (k : Int) ≤ 4294967296 := by rw [← Int.natCast_mul, ← hLp]; omega
          have q4 : 0 ≤ (fal N (k + 1) : Int) * ((k : Int) + 1) := by rw [show (k : Int) + 1 = ((k + 1 : Nat) : Int) from rfl, ← Int.natCast_mul]; omega
          have q5 : (fal N (k + 1) : Int) * ((k : Int) + 1) ≤ 4294967296 := by rw [show (k : Int) + 1 = ((k + 1 : Nat) : Int) from rfl, ← Int.natCast_mul, ← hLc]; omega
          clear hvp hLp hLc
          go_wp2
          clear e1 e2 hcp hcc hz0 hz1 hkN'
          go_loopw [10] (fun t wr => ∃ p : Nat, p ≤ fal N k ∧ t = .int .i64 (p : Int) ∧ Below w1.heap.size w1 wr) (fun t _ => fal N k - (intOf t).toNat)
          case atStart => exact ⟨0, by omega, rfl, hb⟩
          case round =>
            clear hb
            rename World => wo2
            obtain ⟨p, hp, rfl, hb⟩ := hrel
            have hz0 := (hsh.below hb).sizes.cell (i := k) (by omega)
            by_cases hpl : p < fal N k
            · obtain ⟨ad, cs, hsl, hsrc⟩ := cut_lab hrs (show k ≤ F by omega) hF hpl f0 (ap := ap) (by rw [← LP.out]; exact VP.out)
              rw [← LP.out] at hsl
              obtain ⟨i1, i2, i3⟩ := lab_index hpl
              rw [← LP.out] at i1
              have HL : Hid ((lab N k p).length = k) := (good_lab hpl).len
              have hlb : (lab N k p).length ≤ 9223372036854775807 := by rw [HL.out]; omega
              go_wp2
              clear hsl i1 i2 i3 hz0
              go_loopw [12] (fun t wr => ∃ m : Nat, m ≤ N ∧ t = .int .i64 ((m : Int) + 1) ∧ Below w1.heap.size w1 wr) (fun t _ => N + 1 - (intOf t).toNat)
              case atStart => exact ⟨0, by omega, rfl, hb⟩
              case round =>
                clear hb
                rename World => wo3
                obtain ⟨m, hm, rfl, hb⟩ := hrel
                have hrow : Row wo3 (.slice ad k cs) (lab N k p) := (hsrc.below hb).row HL.out
                by_cases hml : m < N
                · cases hh : hasB (lab N k p) ((m : Int) + 1) with
                  | true =>
                    go_wp2_with (go_at_call 13; refine (has_any _ (lab N k p) _ _ hlb hrow).mono ?_; rintro e w' ⟨rfl, hw⟩; obtain rfl : wo3 = w' := hw.symm)
                    go_roundw
                    case rel => exact ⟨m + 1, by omega, by go_num, hb⟩
                    case measure => simp [intOf]; omega
                  | false =>
                    obtain ⟨idx, hidx, g1, g2, g3, g4, g5, g6, g7, g8⟩ := child_facts hpl hml hh LC.out f1
                    have G3 : Hid (∀ i, i < k → (row N (k + 1)).getD (idx * (k + 1) + i) 0 = (lab N k p).getD i 0) := g3
                    have G4 : Hid ((row N (k + 1)).getD (idx * (k + 1) + k) 0 = (m : Int) + 1) := g4
                    have HI : Hid ((p : Int) * ((N : Int) - k) + (m : Int) - (below (lab N k p) ((m : Int) + 1) : Int) = (idx : Int)) := hidx
                    clear g3 g4 hidx
                    go_wp2_with (go_at_call 13; refine (has_any _ (lab N k p) _ _ hlb hrow).mono ?_; rintro e w' ⟨rfl, hw⟩; obtain rfl : wo3 = w' := hw.symm)
                    go_loop [13, 14] (fun c t => ∃ i : Nat, i ≤ k ∧ t = .int .i64 (i : Int) ∧ c = .int .i64 (below ((lab N k p).take i) ((m : Int) + 1) : Int)) (fun _ t => k - (intOf t).toNat)
                    case atStart => exact ⟨0, by omega, rfl, rfl⟩
                    case round =>
                      obtain ⟨i, hi, rfl, rfl⟩ := hrel
                      have hbi := below_take_le (lab N k p) i ((m : Int) + 1)
                      by_cases hil : i < k
                      · rcases hsrc.below hb with ⟨_, _, h0⟩ | ⟨b, off, rfl, _, hc⟩
                        · have := HL.out
                          rw [h0] at this
                          simp at this
                          omega
                        · have hci := hc i (by rw [HL.out]; exact hil)
                          clear hc
                          go_wp2
                          · have hx : (lab N k p)[i]?.getD 0 < (m : Int) + 1 := by assumption
                            have hy := below_yes (by rw [HL.out]; exact hil) hx
                            go_round
                            case rel => exact ⟨i + 1, by omega, by go_num, by rw [hy]; go_num⟩
                            case measure => simp [intOf]; omega
                          · have hx : (m : Int) + 1 ≤ (lab N k p)[i]?.getD 0 := by assumption
                            have hy := below_no (by rw [HL.out]; exact hil) hx
                            go_round
                            case rel => exact ⟨i + 1, by omega, by go_num, by rw [hy]⟩
                            case measure => simp [intOf]; omega
                      · have e : i = k := by omega
                        have hta : (lab N k p).take i = lab N k p := List.take_of_length_le (by rw [HL.out]; omega)
                        rw [hta]
                        clear hbi hta e hi
                        have hidx := HI.out
                        have j0 : 0 ≤ ((idx : Int) + 1) * ((k : Int) + 1) := Int.mul_nonneg (by omega) (by omega)
                        have j1 : 0 ≤ (idx : Int) * ((k : Int) + 1) := Int.mul_nonneg (by omega) (by omega)
                        have j2 : (idx : Int) * ((k : Int) + 1) + k < (Lc : Int) := by rw [show (k : Int) + 1 = ((k + 1 : Nat) : Int) from rfl, ← Int.natCast_mul]; omega
                        go_wp2
                        clear hidx
                        go_loopw [16] (fun t wr => ∃ i : Nat, i ≤ k ∧ t = .int .i64 (i : Int) ∧ Below w1.heap.size w1 wr) (fun t _ => k - (intOf t).toNat)
                        case atStart => exact ⟨0, by omega, rfl, hb⟩
                        case round =>
                          clear hb hrow
                          obtain ⟨i, hi, rfl, hb⟩ := hrel
                          by_cases hil : i < k
                          · rcases hsrc.below hb with ⟨_, _, h0⟩ | ⟨b, off, rfl, _, hc⟩
                            · have := HL.out
                              rw [h0] at this
                              simp at this
                              omega
                            · have hci := hc i (by rw [HL.out]; exact hil)
                              have hcc := (hrc.is.of_block (hb.block bc hrc.is.lt)).cell (i := idx * (k + 1) + i) (by rw [← LC.out]; omega)
                              rw [G3.out i hil] at hcc
                              clear hc
                              go_wp2
                              go_region
                              all_goals
                                go_wp2
                                go_roundw
                                case rel => exact ⟨i + 1, by omega, by go_num, hb.drew⟩
                                case measure => simp [intOf]; omega
                          · have hcc := (hrc.is.of_block (hb.block bc hrc.is.lt)).cell (i := idx * (k + 1) + k) (by rw [← LC.out]; omega)
                            rw [G4.out] at hcc
                            go_wp2
                            go_roundw
                            case rel => exact ⟨m + 1, by omega, by go_num, hb⟩
                            case measure => simp [intOf]; omega
                · go_wp2
                  go_roundw
                  case rel => exact ⟨p + 1, by omega, by go_num, hb⟩
                  case measure => simp [intOf]; omega
            · go_wp2
              go_roundw
              case rel => exact ⟨k + 1, by omega, by omega, by go_num, hb⟩
              case measure => simp [intOf]; omega
        · go_wp2
          go_ret
          exact ⟨rfl, hbel.trans (hb.mono hbel.size)⟩
      · go_wp2
        go_ret
        exact ⟨rfl, hbel.trans (hb.mono hbel.size)⟩

end Go.Proofs.Qxb6602920aMods
