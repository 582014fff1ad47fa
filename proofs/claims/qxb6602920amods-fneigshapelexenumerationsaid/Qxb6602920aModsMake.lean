/-
  'newEIGShape'.
-/
import Derived.Test.Qxb6602920aModsMem
import Derived.BigRegion
import Derived.Maps.AppendAt
import Derived.Deep.DeepCutAuto
namespace Go.Proofs.Qxb6602920aMods
open Go.RowKit EIG
set_option linter.unusedVariables false

theorem Trym.info3 : (Trym.prog.info? 3).map (fun i => (i.zero, i.size, i.bytes)) = some (some (.int .i64 0), 1, 8) := by kernel_rfl
theorem Trym.info23 : (Trym.prog.info? 23).map (fun i => (i.zero, i.size, i.bytes)) = some (some (.slice none 0 0), 1, 24) := by kernel_rfl

/-- What newEIGShape leaves. -/
def MadePost (w : World) (N F : Nat) (e : Ending) (w' : World) : Prop :=
  ∃ bs bz bm mem, e = .returned (.pointer (some ⟨bs, 0, none⟩)) ∧ Below w.heap.size w w' ∧ Sh w.heap.size w' bs bz bm N F (fun i => (fal N i : Int)) mem ∧ Rws w.heap.size w' bs bz bm N F mem

theorem below3 (w : World) (a b c : Obj) : Below w.heap.size w (((w.alloc a).alloc b).alloc c).drew :=
  ((((Below.refl _ _).alloc (Nat.le_refl _) _).alloc (by rw [World.size_alloc]; omega) _).alloc (by rw [World.size_alloc, World.size_alloc]; omega) _).drew

/-- At the head of the first loop: k + 1 sizes are there. -/
structure Rel1 (w : World) (bs bz bm N F k : Nat) (wr : World) : Prop where
  bel : Below w.heap.size w wr
  sh : Sh w.heap.size wr bs bz bm N F (fun j => if j ≤ k then (fal N j : Int) else 0) (fun _ => .slice none 0 0)

theorem rel1_start {w wc : World} {bs bz bm N F : Nat} (hbel : Below w.heap.size w wc) (hsh : Sh w.heap.size wc bs bz bm N F (fun _ => 0) (fun _ => .slice none 0 0)) :
    Rel1 w bs bz bm N F 0 (wc.setCell ⟨bz, 0, none⟩ (.int .i64 1)) :=
  ⟨hbel.setCell hsh.loz _, (hsh.setSize 0 1).zcongr (fun i _ => by
    by_cases h : i = 0
    · subst h; rfl
    · simp [h])⟩

theorem rel1_step {w wr : World} {bs bz bm N F k : Nat} (h : Rel1 w bs bz bm N F k wr) {v : Int} (hv : v = (fal N (k + 1) : Int)) :
    Rel1 w bs bz bm N F (k + 1) (wr.setCell ⟨bz, k + 1, none⟩ (.int .i64 v)).drew := by
  subst hv
  exact ⟨(h.bel.setCell h.sh.loz _).drew, ((h.sh.setSize (k + 1) _).zcongr (fun i _ => by
    by_cases e : i = k + 1
    · subst e; simp
    · by_cases e2 : i ≤ k
      · simp [e, e2, show i ≤ k + 1 by omega]
      · simp [e, e2, show ¬ i ≤ k + 1 by omega])).drew⟩

theorem fal_prod {N F k : Nat} (HALL : ∀ l, l ≤ F + 1 → fal N l ≤ 65536) (hk : k ≤ F) :
    (fal N k : Int) * ((N : Int) - ((k : Int) + 1) + 1) = (fal N (k + 1) : Int) ∧ 0 ≤ (fal N k : Int) * ((N : Int) - ((k : Int) + 1) + 1) ∧ (fal N k : Int) * ((N : Int) - ((k : Int) + 1) + 1) ≤ 65536 := by
  have e : (N : Int) - ((k : Int) + 1) + 1 = (N : Int) - k := by omega
  have := HALL (k + 1) (by omega)
  rw [e, fal_int]
  exact ⟨rfl, by omega, by omega⟩

/-- At the head of the second loop: k rows are there. -/
structure Rel2 (w : World) (bs bz bm N F k : Nat) (mem : Nat → Value) (wr : World) : Prop where
  bel : Below w.heap.size w wr
  sh : Sh w.heap.size wr bs bz bm N F (fun j => (fal N j : Int)) mem
  rows : Rws w.heap.size wr bs bz bm N k mem

theorem rel2_start {w wr : World} {bs bz bm N F k : Nat} (h : Rel1 w bs bz bm N F k wr) (hk : F < k) : Rel2 w bs bz bm N F 0 (fun _ => .slice none 0 0) wr :=
  ⟨h.bel, h.sh.zcongr (fun i hi => by simp [show i ≤ k by omega]), ⟨rfl, fun i h1 h2 => by omega⟩⟩

/-- What is gathered of the row k + 1 behind p parents and m members of the next. -/
def gath (N k p m : Nat) : List Int := rowTo N k p ++ flatKids (lab N k p) m

/-- The row under way: in a block of its own, the one that 'wr' had not yet. -/
structure Cur (wr wq : World) (C : Nat) (cur : List Int) : Prop where
  bel : Below wr.heap.size wr wq
  own : wq.ownsRow wr.heap.size 3 1 (.slice (some ⟨wr.heap.size, 0, none⟩) cur.length C) cur.length (cur.map (Value.int .i64))

theorem cur_start {wr w2 : World} {N k C : Nat} (hown : w2.ownsRow wr.heap.size 3 1 (.slice (some ⟨wr.heap.size, 0, none⟩) 0 C) 0 []) (hgrow : wr.grownBy w2 none) : Cur wr w2 C (rowTo N k 0) := by
  rw [rowTo_zero]
  exact ⟨(Below.refl _ _).grown hgrow (Nat.le_refl _) (fun k h => by cases h), hown⟩

theorem gath_zero (N k p : Nat) : gath N k p 0 = rowTo N k p := by rw [gath, flatKids_zero, List.append_nil]
theorem gath_all {N k p : Nat} (hp : p < fal N k) : gath N k p N = rowTo N k (p + 1) := by rw [gath, rowTo_succ hp]
theorem gath_has {N k p m : Nat} (h : hasB (lab N k p) ((m : Int) + 1) = true) : gath N k p (m + 1) = gath N k p m := by rw [gath, flatKids_has h, gath]
theorem gath_not {N k p m : Nat} (h : hasB (lab N k p) ((m : Int) + 1) = false) : gath N k p (m + 1) = gath N k p m ++ lab N k p ++ [(m : Int) + 1] := by
  rw [gath, flatKids_not h, gath]
  simp [List.append_assoc]
theorem gath_len {N k p m : Nat} (hp : p < fal N k) (h : hasB (lab N k p) ((m : Int) + 1) = false) : (gath N k p (m + 1)).length = (gath N k p m).length + k + 1 := by
  rw [gath_not h, List.length_append, List.length_append, (good_lab hp).len, List.length_singleton]
theorem gath_room {N k p m : Nat} (hp : p < fal N k) (hm : m ≤ N) : (gath N k p m).length ≤ fal N (k + 1) * (k + 1) := room hp hm

theorem cur_step {wr wx w3 w4 : World} {N k p m C : Nat} {o : Obj} (hp : p < fal N k) (hcur : Cur wr wx C (gath N k p m)) (hno : hasB (lab N k p) ((m : Int) + 1) = false)
    (hgrow3 : wx.grownBy w3 (some wr.heap.size))
    (hown4 : w4.ownsRow wr.heap.size 3 1 (.slice (some ⟨wr.heap.size, 0, none⟩) ((gath N k p m).length + k + 1) C) ((gath N k p m).length + k + 1) (((gath N k p m).map (Value.int .i64) ++ (lab N k p).map (Value.int .i64)) ++ [.int .i64 ((m : Int) + 1)]))
    (hgrow4 : (w3.alloc o).grownBy w4 (some wr.heap.size)) : Cur wr w4 C (gath N k p (m + 1)) := by
  have b3 : Below wr.heap.size wr w3 := hcur.bel.grown hgrow3 hcur.bel.size (fun k h => by cases h; exact Nat.le_refl _)
  have b4 := b3.alloc b3.size o
  refine ⟨b4.grown hgrow4 b4.size (fun k h => by cases h; exact Nat.le_refl _), ?_⟩
  rw [gath_len hp hno, gath_not hno, List.map_append, List.map_append]
  exact hown4

theorem rel2_step {w wr wq : World} {bs bz bm N F k C : Nat} {mem : Nat → Value} (hr : Rel2 w bs bz bm N F k mem wr) (hk : k < F) (hcur : Cur wr wq C (rowTo N k (fal N k))) (hC : C = fal N (k + 1) * (k + 1)) :
    Rel2 w bs bz bm N F (k + 1) (fun j => if j = k + 1 then .slice (some ⟨wr.heap.size, 0, none⟩) (rowTo N k (fal N k)).length C else mem j)
      (wq.setCell ⟨bm, k + 1, none⟩ (.slice (some ⟨wr.heap.size, 0, none⟩) (rowTo N k (fal N k)).length C)) := by
  have hsh := hr.sh.below hcur.bel
  have hlen : (rowTo N k (fal N k)).length = C := by rw [rowTo_all, length_row, hC]
  have hown := hcur.own
  rw [hlen] at hown ⊢
  have his := rowIs_of_owns hown
  have hrs := hr.rows.below hcur.bel
  have hsz := hr.sh.struct.lt
  have hzz := hr.sh.sizes.lt
  have hmz := hr.sh.mems.lt
  refine ⟨(hr.bel.trans (hcur.bel.mono hr.bel.size)).setCell hr.sh.lom _, hsh.setMem (k + 1) _, ?_, ?_⟩
  · simp [hr.rows.nil]
  · intro i h1 h2
    by_cases e : i = k + 1
    · subst e
      refine ⟨wr.heap.size, ?_, hr.bel.size, by omega, by omega, by omega, ?_⟩
      · simp [hC]
      · rw [← rowTo_all, ← hC]
        exact his.setOther (by show wr.heap.size ≠ bm; omega) _
    · obtain ⟨b, hb⟩ := hrs.rows i h1 (by omega)
      refine ⟨b, ?_, hb.lo, hb.s, hb.z, hb.m, hb.is.setOther (by show b ≠ bm; exact hb.m) _⟩
      simp [e, hb.val]

theorem prod_bd {N F k : Nat} (HALL : ∀ l, l ≤ F + 1 → fal N l ≤ 65536) (hk : k < F) (hF : F ≤ 65536) :
    (fal N (k + 1) : Int) * ((k : Int) + 1) = ((fal N (k + 1) * (k + 1) : Nat) : Int) ∧ 0 ≤ (fal N (k + 1) : Int) * ((k : Int) + 1) ∧ (fal N (k + 1) : Int) * ((k : Int) + 1) ≤ 4294967296 ∧ fal N (k + 1) * (k + 1) ≤ 4294967296 := by
  have h1 := HALL (k + 1) (by omega)
  have h2 : fal N (k + 1) * (k + 1) ≤ 65536 * 65536 := Nat.mul_le_mul h1 (by omega)
  have e : (fal N (k + 1) : Int) * ((k : Int) + 1) = ((fal N (k + 1) * (k + 1) : Nat) : Int) := by rw [Int.natCast_mul]; rfl
  rw [e]
  omega

/-- The value of slot 5, and the world, behind the first statement. -/
def Rel0 (w : World) (N F : Nat) (v : Value) (wc : World) : Prop :=
  ∃ bs bz bm, v = .pointer (some ⟨bs, 0, none⟩) ∧ Below w.heap.size w wc ∧ Sh w.heap.size wc bs bz bm N F (fun _ => 0) (fun _ => .slice none 0 0)

set_option maxHeartbeats 1000000 in
set_option maxRecDepth 100000 in
theorem make_any (N F : Nat) (w : World) (hN : N ≤ 65536) (hF : F ≤ 65536) (hall : ∀ l, l ≤ F + 1 → fal N l ≤ 65536) :
    Calls Trym.prog 26 #[.int .i64 N, .int .i64 F] w fun e w' => MadePost w N F e w' := by
  have hmk1 := run_make_row' (P := Trym.prog) 23 3 (.int .i64 0) 8 Trym.underlying23 Trym.info3 rfl .i64 .i64 (F + 2) (by omega) (by omega)
  have hmk2 := run_make_row' (P := Trym.prog) 24 23 (.slice none 0 0) 24 Trym.underlying24 Trym.info23 rfl .i64 .i64 (F + 1) (by omega) (by omega)
  rw [show ((F + 2 : Nat) : Int) = (F : Int) + 2 by omega] at hmk1
  rw [show ((F + 1 : Nat) : Int) = (F : Int) + 1 by omega] at hmk2
  have HALL : Hid (∀ l, l ≤ F + 1 → fal N l ≤ 65536) := hall
  clear hall
  go_enter Trym.func26, Trym.ntmps26
  go_wp2
  go_cut [5] (fun v wc => Rel0 w N F v wc)
  case first =>
    go_region
    · go_wp2_with fail
      go_meet
      case rel => exact ⟨_, _, _, rfl, below3 w _ _ _, (Sh.laid1 w N F).drew⟩
    · go_wp2_with fail
      go_meet
      case rel => exact ⟨_, _, _, rfl, below3 w _ _ _, (Sh.laid2 w N F).drew⟩
  case rest =>
    clear hmk1 hmk2
    obtain ⟨bs, bz, bm, rfl, hbel, hsh⟩ := hcut
    have hc2 := hsh.cell2
    have hz0 := hsh.sizes.cell (i := 0) (by omega)
    have hzf := hsh.sizes.frozen 0
    have hi0 : (0 : Int) < (F : Int) + 2 := by omega
    go_wp2
    have hr1 := rel1_start hbel hsh
    clear hc2 hz0 hzf hi0 hsh hbel
    go_loopw [6] (fun i wr => ∃ k : Nat, k ≤ F + 1 ∧ i = .int .i64 ((k : Int) + 1) ∧ Rel1 w bs bz bm N F k wr) (fun i _ => F + 2 - (intOf i).toNat)
    case atStart => exact ⟨0, by omega, rfl, hr1⟩
    case round =>
      clear hr1
      obtain ⟨k, hk, rfl, hr⟩ := hrel
      by_cases hlt : k ≤ F
      · have hc2 := hr.sh.cell2
        have hz0 := hr.sh.sizes.cell (i := k) (by omega)
        have hz1 := hr.sh.sizes.cell (i := k + 1) (by omega)
        have hzf := hr.sh.sizes.frozen (k + 1)
        simp only [Nat.le_refl, if_true, show ¬ (k + 1 ≤ k) by omega, if_false] at hz0 hz1
        obtain ⟨he, hp1, hp2⟩ := fal_prod HALL.out hlt
        have HE : Hid ((fal N k : Int) * ((N : Int) - ((k : Int) + 1) + 1) = (fal N (k + 1) : Int)) := he
        clear he
        go_wp2
        go_region
        all_goals
          go_wp2
          go_roundw
          case rel => exact ⟨k + 1, by omega, by go_num, rel1_step hr HE.out⟩
          case measure => simp [intOf]; omega
      · have hr2 := rel2_start hr (by omega)
        clear hr
        go_wp2
        clear hlt hk
        go_loopw [7] (fun i wr => ∃ k : Nat, k ≤ F ∧ i = .int .i64 ((k : Int) + 1) ∧ ∃ mem, Rel2 w bs bz bm N F k mem wr) (fun i _ => F + 1 - (intOf i).toNat)
        case atStart => exact ⟨0, by omega, rfl, _, hr2⟩
        case round =>
          clear hr2
          rename World => wo
          obtain ⟨k, hk, rfl, mem, hr⟩ := hrel
          by_cases hlt : k < F
          · obtain ⟨he, hp1, hp2, hp3⟩ := prod_bd HALL.out hlt hF
            have HC : Hid ((fal N (k + 1) : Int) * ((k : Int) + 1) = ((fal N (k + 1) * (k + 1) : Nat) : Int)) := he
            clear he
            have hc2 := hr.sh.cell2
            have hz1 := hr.sh.sizes.cell (i := k + 1) (by omega)
            obtain ⟨i0, hi, hz00, hz01, hz02⟩ := info_parts Trym.info3
            go_wp2_with (at_make; refine wpList_make_own _ rfl _ _ 23 rfl wo.heap.size 3 i0 (.int .i64 0) 1 Trym.underlying23 hi hz00 hz01 _ _ _ (fal N (k + 1) * (k + 1)) rfl rfl HC.out ?b2 ?b3 (Nat.le_refl _) ?_)
            case b2 => rw [hz02]; omega
            case b3 => unfold maxLen; omega
            intro w2 hown hgrow
            obtain ⟨C, hCd⟩ : ∃ C, C = fal N (k + 1) * (k + 1) := ⟨_, rfl⟩
            rw [← hCd] at hown ⊢
            have HD : Hid (C = fal N (k + 1) * (k + 1)) := hCd
            have hcur := cur_start (N := N) (k := k) hown hgrow
            clear hCd hc2 hz1 hown hgrow HC hp1 hp2 hp3
            have hc2 := (hr.sh.below hcur.bel).cell2
            have hz1 := (hr.sh.below hcur.bel).sizes.cell (i := k) (by omega)
            go_wp2
            clear hc2 hz1
            go_loopw [8, 75] (fun v t wq => ∃ p : Nat, p ≤ fal N k ∧ t = .int .i64 (p : Int) ∧ v = .slice (some ⟨wo.heap.size, 0, none⟩) (rowTo N k p).length C ∧ Cur wo wq C (rowTo N k p)) (fun _ t _ => fal N k - (intOf t).toNat)
            case atStart => exact ⟨0, Nat.zero_le _, rfl, by rw [rowTo_zero]; rfl, hcur⟩
            case round =>
              clear hcur
              obtain ⟨p, hp, rfl, rfl, hcur⟩ := hrel
              have hfk := HALL.out k (by omega)
              by_cases hpl : p < fal N k
              · go_wp2_with (go_at_call 30; refine (label_any hr.sh hr.rows hcur.bel (by omega) hF hpl hfk).mono ?_; rintro e w' ⟨⟨ao, cs, rfl, hsrc⟩, hw⟩; obtain rfl : wr = w' := hw.symm)
                have hlen := (good_lab hpl).len
                have HL : Hid ((lab N k p).length = k) := hlen
                clear hlen
                rw [← gath_zero] at hcur
                go_loopw [8, 11] (fun v t wx => ∃ m : Nat, m ≤ N ∧ t = .int .i64 ((m : Int) + 1) ∧ v = .slice (some ⟨wo.heap.size, 0, none⟩) (gath N k p m).length C ∧ Cur wo wx C (gath N k p m)) (fun _ t _ => N + 1 - (intOf t).toNat)
                case atStart => exact ⟨0, Nat.zero_le _, rfl, by rw [gath_zero], hcur⟩
                case round =>
                  clear hcur
                  obtain ⟨m, hm, rfl, rfl, hcur⟩ := hrel
                  have hrow : Row wr (.slice ao k cs) (lab N k p) := (hsrc.below hcur.bel).row HL.out
                  have hlb : (lab N k p).length ≤ 9223372036854775807 := by rw [HL.out]; omega
                  by_cases hml : m < N
                  · cases hh : hasB (lab N k p) ((m : Int) + 1) with
                    | true =>
                      have HH : Hid (hasB (lab N k p) ((m : Int) + 1) = true) := hh
                      go_wp2_with (go_at_call 31; refine (contains_any _ (lab N k p) _ _ hlb hrow).mono ?_; rintro e w' ⟨rfl, hw⟩; obtain rfl : wr = w' := hw.symm)
                      have hg := gath_has HH.out
                      go_roundw
                      case rel => exact ⟨m + 1, by omega, by go_num, by rw [hg], by rw [hg]; exact hcur⟩
                      case measure => simp [intOf]; omega
                    | false =>
                      have HH : Hid (hasB (lab N k p) ((m : Int) + 1) = false) := hh
                      have hl1 := gath_len hpl hh
                      have hro := gath_room hpl hml
                      rw [hl1, ← HD.out] at hro
                      have HG : Hid ((gath N k p (m + 1)).length = (gath N k p m).length + k + 1) := hl1
                      clear hl1
                      have hln : ((lab N k p).map (Value.int .i64)).length = k * 1 := by rw [List.length_map, HL.out, Nat.mul_one]
                      have HN : Hid (((lab N k p).map (Value.int .i64)).length = k * 1) := hln
                      clear hln
                      go_wp2_with (first | (go_at_call 31; refine (contains_any _ (lab N k p) _ _ hlb hrow).mono ?_; rintro e w' ⟨rfl, hw⟩; obtain rfl : wr = w' := hw.symm) | (at_builtin; refine wpList_append_fits_any _ rfl (.tmp 92) (.tmp 93) 23 rfl wo.heap.size 3 i0 1 Trym.underlying23 hi hz01 wo.heap.size (gath N k p m).length C ((gath N k p m).map (Value.int .i64)) rfl hcur.own ao k cs ((lab N k p).map (Value.int .i64)) rfl HN.out (hsrc.none HL.out) (hsrc.below hcur.bel).cells (ints_oneCell _ _) (by omega) ?_; intro w3 hown3 hgrow3) | (at_builtin; refine wpList_append_fits _ rfl (.tmp 95) (.tmp 97) 23 rfl wo.heap.size 3 i0 1 Trym.underlying23 hi hz01 wo.heap.size ((gath N k p m).length + k) C ((gath N k p m).map (Value.int .i64) ++ (lab N k p).map (Value.int .i64)) rfl (hown3.alloc _) ⟨w3.heap.size, 0, none⟩ 1 1 [.int .i64 ((m : Int) + 1)] rfl rfl (cell_one_new _ _ _) (ints_oneCell .i64 [(m : Int) + 1]) (by omega) ?_; intro w4 hown4 hgrow4))
                      have hcur' := cur_step hpl hcur HH.out hgrow3 hown4 hgrow4
                      go_roundw
                      case rel => exact ⟨m + 1, by omega, by go_num, by rw [HG.out], hcur'⟩
                      case measure => simp [intOf]; omega
                  · go_wp2
                    have e : m = N := by omega
                    subst e
                    have hg := gath_all hpl
                    go_roundw
                    case rel => exact ⟨p + 1, by omega, by go_num, by rw [hg], by rw [← hg]; exact hcur⟩
                    case measure => simp [intOf]; omega
              · have hc3 := (hr.sh.below hcur.bel).cell3
                have hm1 := (hr.sh.below hcur.bel).mems.cell (i := k + 1) (by omega)
                have hmf := (hr.sh.below hcur.bel).mems.frozen (k + 1)
                go_wp2
                have e : p = fal N k := by omega
                subst e
                go_roundw
                case rel => exact ⟨k + 1, by omega, by go_num, _, rel2_step hr hlt hcur HD.out⟩
                case measure => simp [intOf]; omega
          · go_wp2
            go_ret
            exact ⟨bs, bz, bm, mem, rfl, hr.bel, hr.sh, by
              have e : k = F := by omega
              rw [← e]; exact hr.rows⟩

end Go.Proofs.Qxb6602920aMods
