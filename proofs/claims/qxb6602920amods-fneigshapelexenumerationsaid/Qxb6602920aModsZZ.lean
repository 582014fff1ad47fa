/-
  'ZZNewEIGShape'.
-/
import Derived.Test.Qxb6602920aModsMake
namespace Go.Proofs.Qxb6602920aMods
open Go.RowKit EIG
set_option linter.unusedVariables false

/-- What ZZNewEIGShape leaves: the two slices, in memory of the call's own. -/
def ZZPost (w : World) (N F : Nat) (e : Ending) (w' : World) : Prop :=
  ∃ bs bz bm mem, e = .returned (.tuple #[.slice (some ⟨bz, 0, none⟩) (F + 2) (F + 2), .slice (some ⟨bm, 0, none⟩) (F + 1) (F + 1)]) ∧ Below w.heap.size w w' ∧ Sh w.heap.size w' bs bz bm N F (fun i => (fal N i : Int)) mem ∧ Rws w.heap.size w' bs bz bm N F mem

theorem Rws.drew {B : Nat} {w : World} {bs bz bm N k : Nat} {mem : Nat → Value} (h : Rws B w bs bz bm N k mem) : Rws B w.drew bs bz bm N k mem := h.of_blocks (fun _ _ _ _ _ => rfl)

set_option maxHeartbeats 1000000 in
set_option maxRecDepth 100000 in
theorem zz_any (N F : Nat) (w : World) (hN : N ≤ 65536) (hF : F ≤ 65536) (hall : ∀ l, l ≤ F + 1 → fal N l ≤ 65536) :
    Calls Trym.prog 9 #[.int .i64 N, .int .i64 F] w fun e w' => ZZPost w N F e w' := by
  go_enter Trym.func9, Trym.ntmps9
  go_wp2_with (go_at_call 26; refine (make_any N F _ hN hF hall).mono ?_; rintro e w1 ⟨bs, bz, bm, mem, rfl, hbel, hsh, hrs⟩; have hc2 := hsh.cell2; have hc3 := hsh.cell3)
  go_region
  all_goals
    go_wp2
    go_ret2
    exact ⟨bs, bz, bm, mem, rfl, hbel.drew, hsh.drew, hrs.drew⟩

end Go.Proofs.Qxb6602920aMods
