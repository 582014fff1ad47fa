/-
  PLAIN MATHEMATICS for the enumeration: which label follows which.
-/
import Derived.Test.Qxb6602920aModsPlain
namespace Go.Proofs.Qxb6602920aMods.EIG

/-- How many of 1 to m are not in s. -/
def cnt (s : List Int) (m : Nat) : Nat := (kids s m).length

theorem cnt_used {s : List Int} {m : Nat} (h : hasB s ((m : Int) + 1) = true) : cnt s (m + 1) = cnt s m := by
  have h' : s.contains ((m : Int) + 1) = true := h
  unfold cnt
  rw [kids, if_pos h', List.append_nil]

theorem cnt_unused {s : List Int} {m : Nat} (h : hasB s ((m : Int) + 1) = false) : cnt s (m + 1) = cnt s m + 1 := by
  have h' : s.contains ((m : Int) + 1) = false := h
  unfold cnt
  rw [kids, h']
  simp

theorem cnt_const {s : List Int} {a b : Nat} (hab : a ≤ b) (h : ∀ u : Nat, a ≤ u → u < b → hasB s ((u : Int) + 1) = true) : cnt s b = cnt s a := by
  induction b with
  | zero =>
    have : a = 0 := by omega
    rw [this]
  | succ b ih =>
    by_cases e : a = b + 1
    · rw [e]
    · rw [cnt_used (h b (by omega) (by omega)), ih (by omega) (fun u h1 h2 => h u h1 (by omega))]

theorem kid_get {s : List Int} {m n : Nat} (hm : m < n) (h : hasB s ((m : Int) + 1) = false) : (kids s n)[cnt s m]? = some (s ++ [(m : Int) + 1]) := by
  have h' : s.contains ((m : Int) + 1) = false := h
  obtain ⟨r, hr⟩ := kids_split s (m + 1) (n - (m + 1))
  rw [show m + 1 + (n - (m + 1)) = n by omega, kids, h'] at hr
  rw [hr, cnt]
  simp

theorem kid_inv {s : List Int} {n j : Nat} (hj : j < (kids s n).length) : ∃ m, m < n ∧ hasB s ((m : Int) + 1) = false ∧ cnt s m = j ∧ (kids s n)[j]? = some (s ++ [(m : Int) + 1]) := by
  induction n with
  | zero => simp [kids] at hj
  | succ n ih =>
    by_cases h : j < (kids s n).length
    · obtain ⟨m, h1, h2, h3, h4⟩ := ih h
      exact ⟨m, by omega, h2, h3, by rw [kids, List.getElem?_append_left h, h4]⟩
    · cases hc : hasB s ((n : Int) + 1) with
      | true =>
        have := cnt_used hc
        unfold cnt at this
        omega
      | false =>
        have := cnt_unused hc
        unfold cnt at this
        have e : cnt s n = j := by unfold cnt; omega
        exact ⟨n, by omega, hc, e, by rw [← e]; exact kid_get (by omega) hc⟩

theorem lab_kid {n l p j : Nat} (hp : p < fal n l) (hj : j < n - l) : p * (n - l) + j < fal n (l + 1) ∧ (kids (lab n l p) n)[j]? = some (lab n (l + 1) (p * (n - l) + j)) := by
  have hlt : p * (n - l) + j < fal n (l + 1) := by
    rw [fal]
    calc p * (n - l) + j < p * (n - l) + (n - l) := by omega
      _ = (p + 1) * (n - l) := by rw [Nat.succ_mul]
      _ ≤ fal n l * (n - l) := Nat.mul_le_mul_right _ hp
  refine ⟨hlt, ?_⟩
  have := getElem?_flatMap_const (labels n l) (fun s => kids s n) (n - l) (fun x hx => (kids_len_good (good_labels hx)).1) p j hj
  rw [labels_get hp] at this
  simp only [Option.bind_some] at this
  rw [← this, ← labels_get hlt]
  rfl

/-- a j: the index of the label that the first j numbers of t are. -/
structure Anc (n l : Nat) (t : List Int) (a : Nat → Nat) : Prop where
  lt : ∀ j, j ≤ l → a j < fal n j
  pre : ∀ j, j ≤ l → t.take j = lab n j (a j)
  up : ∀ j, j < l → ∃ r, r < n - j ∧ a (j + 1) = a j * (n - j) + r

theorem anc_exists {n l q : Nat} (hq : q < fal n l) : ∃ a : Nat → Nat, a l = q ∧ Anc n l (lab n l q) a := by
  induction l generalizing q with
  | zero =>
    refine ⟨fun _ => q, rfl, fun j hj => ?_, fun j hj => ?_, fun j hj => absurd hj (Nat.not_lt_zero _)⟩
    · have : j = 0 := by omega
      rw [this]; exact hq
    · have : j = 0 := by omega
      rw [this, List.take_of_length_le (by rw [(good_lab hq).len]; exact Nat.le_refl _)]
  | succ l ih =>
    have hpos : 0 < n - l := by
      rcases Nat.eq_zero_or_pos (n - l) with h | h
      · rw [fal, h, Nat.mul_zero] at hq; omega
      · exact h
    have hp : q / (n - l) < fal n l := by
      rw [fal] at hq
      exact Nat.div_lt_of_lt_mul (by rw [Nat.mul_comm]; exact hq)
    have hr : q % (n - l) < n - l := Nat.mod_lt _ hpos
    have hqe : q / (n - l) * (n - l) + q % (n - l) = q := Nat.div_add_mod' q (n - l)
    obtain ⟨a, ha, hA⟩ := ih hp
    obtain ⟨_, hk⟩ := lab_kid hp hr
    rw [hqe] at hk
    obtain ⟨m, _, _, _, hm⟩ := kid_inv (s := lab n l (q / (n - l))) (n := n) (j := q % (n - l)) (by rw [(kids_len_good (good_lab hp)).1]; exact hr)
    rw [hm] at hk
    have hk' := Option.some.inj hk
    have hlen := (good_lab hp).len
    refine ⟨fun j => if j ≤ l then a j else q, if_neg (by omega), fun j hj => ?_, fun j hj => ?_, fun j hj => ?_⟩
    · by_cases h : j ≤ l
      · simp only [h, if_true]; exact hA.lt j h
      · have : j = l + 1 := by omega
        subst this
        show (if l + 1 ≤ l then a (l + 1) else q) < _
        rw [if_neg (by omega)]
        exact hq
    · by_cases h : j ≤ l
      · simp only [h, if_true]
        rw [← hk', List.take_append_of_le_length (by omega)]
        exact hA.pre j h
      · have : j = l + 1 := by omega
        subst this
        simp only [show ¬ (l + 1 ≤ l) by omega, if_false]
        exact List.take_of_length_le (by rw [(good_lab hq).len]; exact Nat.le_refl _)
    · by_cases h : j < l
      · simp only [show j ≤ l by omega, show j + 1 ≤ l by omega, if_true]
        exact hA.up j h
      · have : j = l := by omega
        subst this
        simp only [Nat.le_refl, if_true, show ¬ (j + 1 ≤ j) by omega, if_false]
        exact ⟨q % (n - j), hr, by rw [ha, hqe]⟩

theorem anc_kid {n l : Nat} {t : List Int} {a : Nat → Nat} (h : Anc n l t a) {j : Nat} (hj : j < l) :
    ∃ m r : Nat, t.getD j 0 = (m : Int) + 1 ∧ m < n ∧ hasB (t.take j) ((m : Int) + 1) = false ∧ cnt (t.take j) m = r ∧ r < n - j ∧ a (j + 1) = a j * (n - j) + r := by
  obtain ⟨r, hr, hu⟩ := h.up j hj
  have hlt := h.lt j (by omega)
  obtain ⟨_, hk⟩ := lab_kid hlt hr
  obtain ⟨m, h1, h2, h3, h4⟩ := kid_inv (s := lab n j (a j)) (n := n) (j := r) (by rw [(kids_len_good (good_lab hlt)).1]; exact hr)
  rw [h4, ← hu] at hk
  have hk' := Option.some.inj hk
  have hp1 := h.pre (j + 1) (by omega)
  have hp0 := h.pre j (by omega)
  refine ⟨m, r, ?_, h1, by rw [hp0]; exact h2, by rw [hp0]; exact h3, hr, hu⟩
  have hlen := (good_lab hlt).len
  have e : (t.take (j + 1)).getD j 0 = (m : Int) + 1 := by
    rw [hp1, ← hk', List.getD_eq_getElem?_getD, List.getElem?_append_right (by omega), hlen]
    simp
  rw [← e, List.getD_eq_getElem?_getD, List.getD_eq_getElem?_getD, List.getElem?_take_of_lt (by omega)]

theorem anc_len {n l : Nat} {t : List Int} {a : Nat → Nat} (h : Anc n l t a) {j : Nat} (hj : j ≤ l) : (t.take j).length = j := by
  rw [h.pre j hj]
  exact (good_lab (h.lt j hj)).len

/-- Position j of t can be raised no further. -/
def Done (n : Nat) (t : List Int) (j : Nat) : Prop := ∀ u : Int, t.getD j 0 < u → u ≤ (n : Int) → hasB (t.take j) u = true

theorem done_step {n l : Nat} {t : List Int} {a : Nat → Nat} (h : Anc n l t a) {j : Nat} (hj : j < l) (hd : Done n t j) : a (j + 1) + 1 = (a j + 1) * (n - j) := by
  obtain ⟨m, r, h1, h2, h3, h4, h5, h6⟩ := anc_kid h hj
  have hlt := h.lt j (by omega)
  have e1 := cnt_unused h3
  have e2 : cnt (t.take j) n = cnt (t.take j) (m + 1) := cnt_const (by omega) (fun u hu1 hu2 => hd _ (by rw [h1]; omega) (by omega))
  have e3 : cnt (t.take j) n = n - j := by
    rw [h.pre j (by omega)]
    exact (kids_len_good (good_lab hlt)).1
  rw [h6, Nat.succ_mul]
  omega

theorem raise_step {n l : Nat} {t : List Int} {a : Nat → Nat} (h : Anc n l t a) {j : Nat} (hj : j < l) {v : Int} (hv1 : t.getD j 0 < v) (hv2 : v ≤ (n : Int)) (hv : hasB (t.take j) v = false)
    (hb : ∀ u : Int, t.getD j 0 < u → u < v → hasB (t.take j) u = true) : a (j + 1) + 1 < fal n (j + 1) ∧ lab n (j + 1) (a (j + 1) + 1) = t.take j ++ [v] := by
  obtain ⟨m, r, h1, h2, h3, h4, h5, h6⟩ := anc_kid h hj
  have hlt := h.lt j (by omega)
  obtain ⟨m', rfl⟩ : ∃ m' : Nat, v = (m' : Int) + 1 := ⟨(v - 1).toNat, by omega⟩
  have e1 := cnt_unused h3
  have e2 : cnt (t.take j) m' = cnt (t.take j) (m + 1) := cnt_const (by omega) (fun u hu1 hu2 => hb _ (by rw [h1]; omega) (by omega))
  have hg := kid_get (n := n) (by omega : m' < n) hv
  rw [show cnt (t.take j) m' = r + 1 by omega, h.pre j (by omega)] at hg
  have hr : r + 1 < n - j := by
    have := (List.getElem?_eq_some_iff.1 hg).1
    rw [(kids_len_good (good_lab hlt)).1] at this
    exact this
  obtain ⟨k1, k2⟩ := lab_kid hlt hr
  rw [hg] at k2
  rw [h6, h.pre j (by omega)]
  exact ⟨by omega, (Option.some.inj k2).symm⟩

theorem first_kid {n j p x : Nat} (hp : p < fal n j) (hx : x < n) (hu : hasB (lab n j p) ((x : Int) + 1) = false) (hb : ∀ u : Nat, u < x → hasB (lab n j p) ((u : Int) + 1) = true) :
    p * (n - j) < fal n (j + 1) ∧ lab n (j + 1) (p * (n - j)) = lab n j p ++ [(x : Int) + 1] := by
  have e : cnt (lab n j p) x = cnt (lab n j p) 0 := cnt_const (by omega) (fun u _ h => hb u h)
  have e0 : cnt (lab n j p) 0 = 0 := rfl
  have hg := kid_get hx hu
  rw [e, e0] at hg
  have hr : 0 < n - j := by
    have := (List.getElem?_eq_some_iff.1 hg).1
    rw [(kids_len_good (good_lab hp)).1] at this
    exact this
  obtain ⟨k1, k2⟩ := lab_kid hp hr
  rw [hg] at k2
  exact ⟨by omega, (Option.some.inj k2).symm⟩

/-- So many are used: no more than the label is long. -/
theorem pigeon {n j p x : Nat} (hp : p < fal n j) (hb : ∀ u : Nat, u < x → hasB (lab n j p) ((u : Int) + 1) = true) : x ≤ j := by
  have hg := good_lab hp
  have e := kids_length hg.nodup (fun y hy => (hg.range y hy).1) x
  have e1 : cnt (lab n j p) x = cnt (lab n j p) 0 := cnt_const (by omega) (fun u _ h => hb u h)
  have e0 : cnt (lab n j p) 0 = 0 := rfl
  unfold cnt at e1 e0
  have e2 : (lab n j p).countP (fun y => decide (y ≤ (x : Int))) ≤ (lab n j p).length := List.countP_le_length
  rw [hg.len] at e2
  omega

theorem all_done {n l : Nat} {t : List Int} {a : Nat → Nat} (h : Anc n l t a) (hd : ∀ j, j < l → Done n t j) : a l + 1 = fal n l := by
  have : ∀ j, j ≤ l → a j + 1 = fal n j := by
    intro j
    induction j with
    | zero =>
      intro _
      have := h.lt 0 (by omega)
      rw [fal] at this ⊢
      omega
    | succ j ih =>
      intro hj
      rw [done_step h (by omega) (hd j (by omega)), ih (by omega), fal]
  exact this l (Nat.le_refl _)

/-- The first label of length l. -/
theorem lab_first {n l : Nat} (hl : l ≤ n) : 0 < fal n l ∧ ∀ i, i < l → (lab n l 0).getD i 0 = (i : Int) + 1 := by
  induction l with
  | zero => exact ⟨by simp [fal], fun i hi => absurd hi (Nat.not_lt_zero _)⟩
  | succ l ih =>
    obtain ⟨h0, hi⟩ := ih (by omega)
    have hlen := (good_lab h0).len
    have hmem : ∀ u : Nat, u < l → hasB (lab n l 0) ((u : Int) + 1) = true := by
      intro u hu
      refine hasB_hit (k := u) (by omega) ?_
      rw [← List.getD_eq_getElem?_getD, hi u hu]
      simp
    have hnot : hasB (lab n l 0) ((l : Int) + 1) = false := by
      cases hc : hasB (lab n l 0) ((l : Int) + 1) with
      | false => rfl
      | true =>
        exfalso
        have : ((l : Int) + 1) ∈ lab n l 0 := List.contains_iff_mem.1 hc
        obtain ⟨i, hil, he⟩ := List.mem_iff_getElem.1 this
        have := hi i (by omega)
        rw [List.getD_eq_getElem?_getD, List.getElem?_eq_getElem hil, Option.getD_some, he] at this
        omega
    obtain ⟨k1, k2⟩ := first_kid h0 (by omega) hnot hmem
    rw [Nat.zero_mul] at k1 k2
    refine ⟨k1, fun i hil => ?_⟩
    rw [k2]
    by_cases e : i < l
    · rw [List.getD_eq_getElem?_getD, List.getElem?_append_left (by omega), ← List.getD_eq_getElem?_getD, hi i e]
    · have : i = l := by omega
      subst this
      rw [List.getD_eq_getElem?_getD, List.getElem?_append_right (by omega), hlen]
      simp

theorem take_set_succ {xs : List Int} {j : Nat} (h : j < xs.length) (v : Int) : (xs.set j v).take (j + 1) = xs.take j ++ [v] := by
  rw [List.take_succ_eq_append_getElem (by simpa using h), List.take_set_of_le (by omega)]
  simp

theorem getD_set {xs : List Int} {i : Nat} (h : i < xs.length) (v : Int) (j : Nat) : (xs.set i v).getD j 0 = if j = i then v else xs.getD j 0 := by
  rw [List.getD_eq_getElem?_getD, List.getD_eq_getElem?_getD, List.getElem?_set]
  by_cases e : i = j
  · subst e; simp [h]
  · rw [if_neg e, if_neg (fun x => e x.symm)]

end Go.Proofs.Qxb6602920aMods.EIG
