/-
  'label': one label out of its row.
-/
import Derived.Test.Qxb6602920aModsSmall
namespace Go.Proofs.Qxb6602920aMods
open Go.RowKit EIG
set_option linter.unusedVariables false

theorem ret_slice {ao : Option Addr} {n m c : Nat} (h : n = m) : Ending.returned (.slice ao n c) = .returned (.slice ao m c) := by rw [h]

theorem label_some (bs bm br l p M N C : Nat) (w : World) (hM : l < M) (hMb : M ≤ 9223372036854775807)
    (h3 : w.cell? ⟨bs, 3, none⟩ = some (.slice (some ⟨bm, 0, none⟩) M M))
    (hm : w.cell? ⟨bm, l, none⟩ = some (.slice (some ⟨br, 0, none⟩) N C))
    (h2 : ((p : Int) + 1) * l ≤ N) (hNC : N ≤ C) (hC : C ≤ 10000000000) (hp : p ≤ 10000000000)
    (hlt : (p : Int) * l < C) (h0 : 0 ≤ (p : Int) * l) (hle : (p : Int) * l ≤ ((p : Int) + 1) * l) :
    Calls Trym.prog 30 #[.pointer (some ⟨bs, 0, none⟩), .int .i64 l, .int .i64 p] w fun e w' => e = .returned (.slice (some ⟨br, p * l, none⟩) l (C - p * l)) ∧ w' = w := by
  go_enter Trym.func30, Trym.ntmps30
  go_wp2
  go_ret
  exact ⟨ret_slice (by rw [Nat.succ_mul]; omega), rfl⟩

theorem label_zero (bs bm p M : Nat) (w : World) (hM : 0 < M) (hMb : M ≤ 9223372036854775807) (hp : p ≤ 10000000000)
    (h3 : w.cell? ⟨bs, 3, none⟩ = some (.slice (some ⟨bm, 0, none⟩) M M))
    (hm : w.cell? ⟨bm, 0, none⟩ = some (.slice none 0 0)) :
    Calls Trym.prog 30 #[.pointer (some ⟨bs, 0, none⟩), .int .i64 0, .int .i64 p] w fun e w' => e = .returned (.slice none 0 0) ∧ w' = w := by
  go_enter Trym.func30, Trym.ntmps30
  go_wp2
  go_ret
  exact ⟨rfl, rfl⟩

end Go.Proofs.Qxb6602920aMods
