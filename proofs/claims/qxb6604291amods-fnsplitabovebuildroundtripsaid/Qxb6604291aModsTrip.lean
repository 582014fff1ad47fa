/-
  THE WALKS of splitAboveNoUnderscore, zzBytes_FnSplitAboveBuildRoundTrip, FnSplitAboveBuildRoundTrip.
-/
import Derived.Test.Qxb6604291aModsSplit
namespace Go.Proofs.Qxb6604291aMods
open Go.RowKit Cut
set_option linter.unusedVariables false

/-- No underscore among the first k. -/
def NoBar (s : ByteArray) (k : Nat) : Prop := ∀ j, j < k → s.data.toList[j]? ≠ some 95

theorem nobar_step {s : ByteArray} {k : Nat} (hk : k < s.size) (h : NoBar s k) (e : ((s[k].toNat : Int) == 95) = false) : NoBar s (k + 1) := fun j hj hx => by
  by_cases hjk : j = k
  · subst hjk
    rw [Array.getElem?_toList, Array.getElem?_eq_getElem hk] at hx
    have : s[j] = 95 := Option.some.inj hx
    rw [this] at e
    simp at e
  · exact h j (by omega) hx

def BarPost (s : ByteArray) (e : Ending) : Prop := ∃ r : Bool, e = .returned (.bool r) ∧ (r = true → NoBar s s.size)

theorem bar_any (s : ByteArray) (hs : s.size ≤ 1100000) (w : World) :
    Calls Trym.prog 10 #[.string s] w fun e w' => BarPost s e ∧ w' = w := by
  go_enter Trym.func10, Trym.ntmps10
  go_wp2
  go_loop [3] (fun i => ∃ k : Nat, k ≤ s.size ∧ i = .int .i64 (k : Int) ∧ NoBar s k) (fun i => s.size - (intOf i).toNat)
  case atStart => exact ⟨0, Nat.zero_le _, rfl, fun j hj => absurd hj (Nat.not_lt_zero _)⟩
  case round =>
    obtain ⟨k, hk, rfl, hno⟩ := hrel
    by_cases hlt : k < s.size
    · go_wp2
      · have e : ((s[k].toNat : Int) == 95) = true := by assumption
        go_ret
        exact ⟨⟨false, rfl, fun h => by cases h⟩, rfl⟩
      · have e : ((s[k].toNat : Int) == 95) = false := by assumption
        go_round
        case rel => exact ⟨k + 1, by omega, by go_num, nobar_step hlt hno e⟩
        case measure => simp [intOf]; omega
    · go_wp2
      go_ret
      have e : k = s.size := by omega
      subst e
      exact ⟨⟨true, rfl, fun _ => hno⟩, rfl⟩

/-- Some bool. -/
def SomeBool (e : Ending) : Prop := ∃ r : Bool, e = .returned (.bool r)

theorem bytes_any (a b : ByteArray) (ha : a.size ≤ maxLen) (hb : b.size ≤ maxLen) (w : World) :
    Calls Trym.prog 9 #[.string a, .string b] w fun e w' => SomeBool e ∧ w' = w := by
  unfold maxLen at ha hb
  go_enter Trym.func9, Trym.ntmps9
  go_wp2
  all_goals (go_ret; exact ⟨⟨_, rfl⟩, rfl⟩)

/-- The field that the law builds. -/
abbrev built (a b : ByteArray) : ByteArray := a ++ { data := #[95, 97, 98, 111, 118, 101, 95] } ++ b ++ { data := #[107, 95, 116, 111, 107, 101, 110, 115] }

theorem built_list (a b : ByteArray) : (built a b).data.toList = a.data.toList ++ mkB ++ b.data.toList ++ unB := by
  simp [ByteArray.data_append, mkB, unB]

theorem built_size (a b : ByteArray) : (built a b).size = a.size + b.size + 15 := by
  have h := built_len a.data.toList b.data.toList
  rw [← built_list, Array.length_toList, Array.length_toList, Array.length_toList] at h
  exact h

theorem bytes_ext {x y : ByteArray} (h : x.data.toList = y.data.toList) : x = y := ByteArray.ext (Array.toList_inj.1 h)

theorem built_split {a b : ByteArray} {e : Ending} (hno : NoBar b b.size) (h : SplitPost (built a b) e) : e = .returned (.tuple #[.string a, .string b, .bool true]) := by
  have hb : ∀ x ∈ b.data.toList, x ≠ 95 := by
    intro x hx e95
    obtain ⟨j, hj, rfl⟩ := List.mem_iff_getElem.1 hx
    exact hno j (by simpa using hj) (by rw [List.getElem?_eq_getElem hj, e95])
  have hla : a.data.toList.length = a.size := by simp
  have hlb : b.data.toList.length = b.size := by simp
  unfold SplitPost at h
  rw [built_list, built_size] at h
  rcases h with ⟨_, hn⟩ | ⟨i, _, h2, h3, _, rfl⟩
  · exact absurd ⟨built_ends _ _, _, built_mark _ _⟩ hn
  · have hi : i = a.size := by
      rcases Nat.lt_trichotomy i a.size with h | h | h
      · exact absurd (built_mark a.data.toList b.data.toList) (h3 _ (by rw [hla]; exact h))
      · exact h
      · exact absurd h2 (built_last _ _ hb _ (by rw [hla]; exact h))
    subst hi
    have e1 : (built a b).extract 0 a.size = a := by
      apply bytes_ext
      rw [Lib.extract_data, built_list, List.drop_zero, Nat.sub_zero, List.append_assoc, List.append_assoc, List.take_append_of_le_length (by omega), List.take_of_length_le (by omega)]
    have e2 : (built a b).extract (a.size + 7) (a.size + b.size + 15 - 8) = b := by
      apply bytes_ext
      have l1 : mkB.length = 7 := rfl
      rw [Lib.extract_data, built_list, List.append_assoc, List.drop_append_of_le_length (by simp [l1]), List.drop_of_length_le (by simp [l1]), List.nil_append, List.take_append_of_le_length (by omega), List.take_of_length_le (by omega)]
    rw [e1, e2]

set_option maxHeartbeats 400000 in
theorem trip_any (a b : ByteArray) (ha : a.size ≤ maxLen) (hb : b.size ≤ maxLen) (w : World) :
    Calls Trym.prog 4 #[.string a, .string b] w fun e w' => e = .returned (.bool true) ∧ Below w.heap.size w w' := by
  have HA : Hid (a.size ≤ maxLen) := ha
  have HB : Hid (b.size ≤ maxLen) := hb
  unfold maxLen at ha hb
  go_enter Trym.func4, Trym.ntmps4
  go_wp2_with fail
  refine (bytes_any a b HA.out HB.out _).mono ?_
  rintro e w' ⟨⟨r, rfl⟩, hw⟩
  obtain rfl : w = w' := hw.symm
  go_wp2_with fail
  · go_ret
    exact ⟨rfl, Below.refl _ _⟩
  · go_ret
    exact ⟨rfl, Below.refl _ _⟩
  · go_ret
    exact ⟨rfl, Below.refl _ _⟩
  · have h1 : (a.size : Int) ≤ 524288 := by assumption
    have h2 : (b.size : Int) ≤ 524288 := by assumption
    refine (bar_any b (by omega) _).mono ?_
    rintro e w' ⟨⟨q, rfl, hq⟩, hw⟩
    obtain rfl : w = w' := hw.symm
    go_wp2_with fail
    · go_ret
      exact ⟨rfl, Below.refl _ _⟩
    · have hq' : q = true := by cases q <;> simp_all
      have hno := hq hq'
      have HN : Hid (NoBar b b.size) := hno
      clear hq hno
      refine (zz_any (built a b) (by rw [built_size]; omega) _).mono ?_
      rintro e w1 ⟨hsp, hbel⟩
      have he := built_split HN.out hsp
      subst he
      clear hsp
      go_wp2
      go_ret
      exact ⟨rfl, hbel⟩

end Go.Proofs.Qxb6604291aMods
