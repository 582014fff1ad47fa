/-
  PLAIN MATHEMATICS for the seat's two laws: labels of distinct members, one length after the other. No Go in sight.
-/
namespace Go.Proofs.Qxb6602920aMods.EIG

/-- The children of the label s by the members 1 to m, in increasing order. -/
def kids (s : List Int) : Nat → List (List Int)
  | 0 => []
  | m + 1 => kids s m ++ (if s.contains ((m : Int) + 1) then [] else [s ++ [(m : Int) + 1]])

/-- All labels of length l over the members 1 to n. -/
def labels (n : Nat) : Nat → List (List Int)
  | 0 => [[]]
  | l + 1 => (labels n l).flatMap (fun s => kids s n)

/-- n(n-1)...(n-l+1). -/
def fal (n : Nat) : Nat → Nat
  | 0 => 1
  | l + 1 => fal n l * (n - l)

structure Good (n l : Nat) (s : List Int) : Prop where
  len : s.length = l
  nodup : s.Nodup
  range : ∀ x ∈ s, 1 ≤ x ∧ x ≤ (n : Int)

theorem countP_le_succ (s : List Int) (m : Int) : s.countP (fun x => decide (x ≤ m + 1)) = s.countP (fun x => decide (x ≤ m)) + s.count (m + 1) := by
  induction s with
  | nil => simp
  | cons a s ih =>
    rw [List.countP_cons, List.countP_cons, List.count_cons, ih]
    by_cases h1 : a ≤ m
    · have h2 : a ≤ m + 1 := by omega
      have h3 : (a == m + 1) = false := by simp; omega
      simp [h1, h2, h3]; omega
    · by_cases h2 : a = m + 1
      · subst h2
        have h5 : ¬ (m + 1 ≤ m) := by omega
        simp [h5]; omega
      · have h3 : ¬ a ≤ m + 1 := by omega
        have h4 : (a == m + 1) = false := by simpa using h2
        simp [h1, h3, h4]

theorem kids_length {s : List Int} (hn : s.Nodup) (h1 : ∀ x ∈ s, 1 ≤ x) (m : Nat) : (kids s m).length + s.countP (fun x => decide (x ≤ (m : Int))) = m := by
  induction m with
  | zero =>
    have : s.countP (fun x => decide (x ≤ ((0 : Nat) : Int))) = 0 := by
      rw [List.countP_eq_zero]
      intro x hx
      have := h1 x hx
      simp; omega
    rw [this]; rfl
  | succ m ih =>
    have e := countP_le_succ s m
    rw [hn.count] at e
    have ec : ((m + 1 : Nat) : Int) = (m : Int) + 1 := by omega
    rw [ec, e]
    by_cases hm : ((m : Int) + 1) ∈ s
    · simp only [kids, List.contains_iff_mem.2 hm, if_true, List.append_nil, if_pos hm]; omega
    · have : s.contains ((m : Int) + 1) = false := by simpa using hm
      simp only [kids, this, if_neg hm, Bool.false_eq_true, if_false, List.length_append, List.length_singleton]; omega

theorem kids_len_good {n l : Nat} {s : List Int} (h : Good n l s) : (kids s n).length = n - l ∧ l ≤ n := by
  have e := kids_length h.nodup (fun x hx => (h.range x hx).1) n
  have c : s.countP (fun x => decide (x ≤ (n : Int))) = s.length := by
    rw [List.countP_eq_length]
    intro x hx
    simpa using (h.range x hx).2
  rw [c, h.len] at e
  omega

theorem mem_kids {s t : List Int} {m : Nat} (h : t ∈ kids s m) : ∃ k : Nat, k < m ∧ s.contains ((k : Int) + 1) = false ∧ t = s ++ [(k : Int) + 1] := by
  induction m with
  | zero => simp [kids] at h
  | succ m ih =>
    rw [kids, List.mem_append] at h
    rcases h with h | h
    · obtain ⟨k, a, b, c⟩ := ih h
      exact ⟨k, by omega, b, c⟩
    · by_cases hc : s.contains ((m : Int) + 1) = true
      · rw [if_pos hc] at h; simp at h
      · rw [if_neg hc] at h
        exact ⟨m, by omega, by simpa using hc, by simpa using h⟩

theorem good_kid {n l : Nat} {s t : List Int} (h : Good n l s) (ht : t ∈ kids s n) : Good n (l + 1) t := by
  obtain ⟨k, hk, hc, rfl⟩ := mem_kids ht
  refine ⟨by simp [h.len], ?_, ?_⟩
  · rw [List.nodup_append]
    refine ⟨h.nodup, by simp, ?_⟩
    intro a ha b hb e
    simp only [List.mem_singleton] at hb
    subst e
    subst hb
    rw [List.contains_iff_mem.2 ha] at hc
    exact absurd hc (by simp)
  · intro x hx
    rw [List.mem_append] at hx
    rcases hx with hx | hx
    · exact h.range x hx
    · simp only [List.mem_singleton] at hx
      subst hx
      omega

theorem good_labels {n l : Nat} {s : List Int} (h : s ∈ labels n l) : Good n l s := by
  induction l generalizing s with
  | zero =>
    simp only [labels, List.mem_singleton] at h
    subst h
    exact ⟨rfl, List.nodup_nil, by simp⟩
  | succ l ih =>
    rw [labels, List.mem_flatMap] at h
    obtain ⟨p, hp, ht⟩ := h
    exact good_kid (ih hp) ht

/-! ### Lists whose members are equally long -/

theorem length_flatMap_const {α β : Type} (L : List α) (f : α → List β) (k : Nat) (h : ∀ x ∈ L, (f x).length = k) : (L.flatMap f).length = L.length * k := by
  induction L with
  | nil => simp
  | cons a L ih =>
    rw [List.flatMap_cons, List.length_append, h a (by simp), ih (fun x hx => h x (by simp [hx])), List.length_cons, Nat.succ_mul]
    omega

theorem getElem?_flatMap_const {α β : Type} (L : List α) (f : α → List β) (k : Nat) (h : ∀ x ∈ L, (f x).length = k) (p j : Nat) (hj : j < k) :
    (L.flatMap f)[p * k + j]? = L[p]?.bind (fun x => (f x)[j]?) := by
  induction L generalizing p with
  | nil => simp
  | cons a L ih =>
    have ha := h a (by simp)
    rw [List.flatMap_cons]
    cases p with
    | zero =>
      rw [List.getElem?_append_left (by omega)]
      simp
    | succ p =>
      rw [List.getElem?_append_right (by rw [ha, Nat.succ_mul]; omega), ha]
      have e : (p + 1) * k + j - k = p * k + j := by rw [Nat.succ_mul]; omega
      rw [e, ih (fun x hx => h x (by simp [hx])) p]
      simp

theorem length_labels (n l : Nat) : (labels n l).length = fal n l := by
  induction l with
  | zero => rfl
  | succ l ih =>
    rw [labels, length_flatMap_const _ _ (n - l) (fun x hx => (kids_len_good (good_labels hx)).1), ih]
    rfl

/-- The numbers of all labels of length l, one behind the other. -/
def row (n l : Nat) : List Int := (labels n l).flatten

theorem flatten_eq (L : List (List Int)) : L.flatten = L.flatMap (fun s => s) := by
  induction L with
  | nil => rfl
  | cons a L ih => rw [List.flatten_cons, List.flatMap_cons, ih]

theorem length_row (n l : Nat) : (row n l).length = fal n l * l := by
  rw [row, flatten_eq, length_flatMap_const _ _ l (fun x hx => (good_labels hx).len), length_labels]

/-- Label p of length l. -/
def lab (n l p : Nat) : List Int := (labels n l).getD p []

theorem labels_get {n l p : Nat} (h : p < fal n l) : (labels n l)[p]? = some (lab n l p) := by
  have h' : p < (labels n l).length := by rw [length_labels]; exact h
  rw [lab, List.getD_eq_getElem?_getD, List.getElem?_eq_getElem h']
  rfl

theorem good_lab {n l p : Nat} (h : p < fal n l) : Good n l (lab n l p) := by
  have := labels_get h
  exact good_labels (List.mem_of_getElem? this)

theorem row_get {n l p i : Nat} (h : p < fal n l) (hi : i < l) : (row n l)[p * l + i]? = (lab n l p)[i]? := by
  rw [row, flatten_eq, getElem?_flatMap_const _ _ l (fun x hx => (good_labels hx).len) p i hi, labels_get h]
  rfl

theorem row_getD {n l p i : Nat} (h : p < fal n l) (hi : i < l) : (row n l).getD (p * l + i) 0 = (lab n l p).getD i 0 := by
  rw [List.getD_eq_getElem?_getD, List.getD_eq_getElem?_getD, row_get h hi]

/-- How many members of s lie below m. -/
def below (s : List Int) (m : Int) : Nat := s.countP (fun x => decide (x < m))

theorem below_le (s : List Int) (m : Nat) : s.countP (fun x => decide (x ≤ (m : Int))) = below s ((m : Int) + 1) := by
  unfold below
  congr 1
  funext x
  rw [decide_eq_decide]
  omega

theorem kids_split (s : List Int) (m k : Nat) : ∃ r, kids s (m + k) = kids s m ++ r := by
  induction k with
  | zero => exact ⟨[], by simp⟩
  | succ k ih =>
    obtain ⟨r, hr⟩ := ih
    refine ⟨r ++ (if s.contains (((m + k : Nat) : Int) + 1) then [] else [s ++ [((m + k : Nat) : Int) + 1]]), ?_⟩
    show kids s (m + k + 1) = _
    rw [kids, hr, List.append_assoc]

/-- THE CHILD BY THE MEMBER m + 1 STANDS AT 'm - below'. -/
theorem kid_at {n l : Nat} {s : List Int} (h : Good n l s) {m : Nat} (hm : m < n) (hc : s.contains ((m : Int) + 1) = false) :
    below s ((m : Int) + 1) ≤ m ∧ m - below s ((m : Int) + 1) < n - l ∧ (kids s n)[m - below s ((m : Int) + 1)]? = some (s ++ [(m : Int) + 1]) := by
  have e := kids_length h.nodup (fun x hx => (h.range x hx).1) m
  rw [below_le] at e
  obtain ⟨r, hr⟩ := kids_split s (m + 1) (n - (m + 1))
  have hnm : m + 1 + (n - (m + 1)) = n := by omega
  rw [hnm, kids, hc] at hr
  have hl := (kids_len_good h).1
  rw [hr] at hl
  simp only [Bool.false_eq_true, if_false, List.length_append, List.length_singleton] at hl
  refine ⟨by omega, by omega, ?_⟩
  rw [hr]
  have hidx : m - below s ((m : Int) + 1) = (kids s m).length := by omega
  rw [hidx]
  simp

/-- THE LAW OF THE CHILD's INDEX. -/
theorem child_lab {n l p m : Nat} (hp : p < fal n l) (hm : m < n) (hc : (lab n l p).contains ((m : Int) + 1) = false) :
    below (lab n l p) ((m : Int) + 1) ≤ m ∧ p * (n - l) + (m - below (lab n l p) ((m : Int) + 1)) < fal n (l + 1) ∧
      lab n (l + 1) (p * (n - l) + (m - below (lab n l p) ((m : Int) + 1))) = lab n l p ++ [(m : Int) + 1] := by
  have hg := good_lab hp
  obtain ⟨a, b, c⟩ := kid_at hg hm hc
  refine ⟨a, ?_, ?_⟩
  · rw [fal]
    calc p * (n - l) + (m - below (lab n l p) ((m : Int) + 1)) < p * (n - l) + (n - l) := by omega
      _ = (p + 1) * (n - l) := by rw [Nat.succ_mul]
      _ ≤ fal n l * (n - l) := Nat.mul_le_mul_right _ hp
  · have := getElem?_flatMap_const (labels n l) (fun s => kids s n) (n - l) (fun x hx => (kids_len_good (good_labels hx)).1) p _ b
    rw [labels_get hp] at this
    simp only [Option.bind_some] at this
    rw [c] at this
    show (labels n (l + 1)).getD _ [] = _
    rw [labels, List.getD_eq_getElem?_getD, this]
    rfl

/-! ### What the loops gather -/

/-- The flat children of s by the members 1 to m. -/
def flatKids (s : List Int) (m : Nat) : List Int := (kids s m).flatten

theorem flatKids_zero (s : List Int) : flatKids s 0 = [] := rfl
theorem flatKids_has {s : List Int} {m : Nat} (h : s.contains ((m : Int) + 1) = true) : flatKids s (m + 1) = flatKids s m := by
  rw [flatKids, kids, if_pos h, List.append_nil, flatKids]
theorem flatKids_not {s : List Int} {m : Nat} (h : s.contains ((m : Int) + 1) = false) : flatKids s (m + 1) = flatKids s m ++ s ++ [(m : Int) + 1] := by
  rw [flatKids, kids, h]
  simp [flatKids]

/-- The row of length l + 1 behind p parents. -/
def rowTo (n l p : Nat) : List Int := ((labels n l).take p).flatMap (fun s => flatKids s n)

theorem rowTo_zero (n l : Nat) : rowTo n l 0 = [] := by simp [rowTo]
theorem rowTo_succ {n l p : Nat} (h : p < fal n l) : rowTo n l (p + 1) = rowTo n l p ++ flatKids (lab n l p) n := by
  rw [rowTo, List.take_add_one, labels_get h, List.flatMap_append, rowTo]
  simp
theorem rowTo_all (n l : Nat) : rowTo n l (fal n l) = row n (l + 1) := by
  rw [rowTo, List.take_of_length_le (by rw [length_labels]; exact Nat.le_refl _), row, labels]
  generalize labels n l = L
  induction L with
  | nil => rfl
  | cons a L ih => rw [List.flatMap_cons, List.flatMap_cons, List.flatten_append, ih, flatKids]

theorem length_flatKids {n l : Nat} {s : List Int} (h : Good n l s) (m : Nat) : (flatKids s m).length = (kids s m).length * (l + 1) := by
  rw [flatKids, flatten_eq, length_flatMap_const _ _ (l + 1)]
  intro t ht
  obtain ⟨k, _, _, rfl⟩ := mem_kids ht
  simp [h.len]

theorem length_rowTo {n l p : Nat} (h : p ≤ fal n l) : (rowTo n l p).length = p * ((n - l) * (l + 1)) := by
  rw [rowTo, length_flatMap_const _ _ ((n - l) * (l + 1))]
  · rw [List.length_take, length_labels, Nat.min_eq_left h]
  · intro s hs
    have hg := good_labels (List.mem_of_mem_take hs)
    rw [length_flatKids hg, (kids_len_good hg).1]

theorem kids_mono (s : List Int) {m n : Nat} (h : m ≤ n) : (kids s m).length ≤ (kids s n).length := by
  obtain ⟨r, hr⟩ := kids_split s m (n - m)
  rw [show m + (n - m) = n by omega] at hr
  rw [hr, List.length_append]
  omega

/-- WHAT IS GATHERED HAS ROOM: p parents done, m members of the next; and one child more where it is to come. -/
theorem room {n l p m : Nat} (hp : p < fal n l) (hm : m ≤ n) : (rowTo n l p ++ flatKids (lab n l p) m).length ≤ fal n (l + 1) * (l + 1) := by
  have hg := good_lab hp
  rw [List.length_append, length_rowTo (Nat.le_of_lt hp), length_flatKids hg]
  have k1 := kids_mono (lab n l p) hm
  rw [(kids_len_good hg).1] at k1
  have e : fal n (l + 1) * (l + 1) = fal n l * ((n - l) * (l + 1)) := by rw [fal, Nat.mul_assoc]
  rw [e]
  calc p * ((n - l) * (l + 1)) + (kids (lab n l p) m).length * (l + 1) ≤ p * ((n - l) * (l + 1)) + (n - l) * (l + 1) := Nat.add_le_add_left (Nat.mul_le_mul_right _ k1) _
    _ = (p + 1) * ((n - l) * (l + 1)) := by rw [Nat.succ_mul]
    _ ≤ fal n l * ((n - l) * (l + 1)) := Nat.mul_le_mul_right _ hp

/-- Is x among s? (Not reducible: the walk leaves it alone.) -/
def hasB (s : List Int) (x : Int) : Bool := s.contains x
theorem hasB_nil (x : Int) : hasB [] x = false := rfl
theorem hasB_step {zs : List Int} {k : Nat} {x : Int} (h : hasB (zs.take k) x = false) (hx : (zs[k]?.getD 0 == x) = false) : hasB (zs.take (k + 1)) x = false := by
  unfold hasB at *
  rw [List.take_add_one]
  cases hz : zs[k]? with
  | none => simpa using h
  | some y =>
    rw [hz] at hx
    simp only [Option.getD_some, beq_eq_false_iff_ne, ne_eq] at hx
    simp only [List.contains_eq_mem, decide_eq_false_iff_not] at h ⊢
    intro hm
    rw [List.mem_append] at hm
    rcases hm with hm | hm
    · exact h hm
    · simp only [Option.toList_some, List.mem_singleton] at hm
      exact hx hm.symm
theorem hasB_hit {zs : List Int} {k : Nat} {x : Int} (hk : k < zs.length) (hx : (zs[k]?.getD 0 == x) = true) : hasB zs x = true := by
  unfold hasB
  rw [List.getElem?_eq_getElem hk] at hx
  simp only [Option.getD_some, beq_iff_eq] at hx
  rw [List.contains_iff_mem, ← hx]
  exact List.getElem_mem hk

/-- What 'zzShapeFits' promises. -/
def Fits (n f : Int) : Prop := ∃ N F : Nat, n = N ∧ f = F ∧ N ≤ 65536 ∧ F ≤ 65536 ∧ ∀ l, l ≤ F + 1 → fal N l ≤ 65536

theorem fal_past {n l : Nat} (h : n < l) : fal n l = 0 := by
  induction l with
  | zero => omega
  | succ l ih =>
    rw [fal]
    by_cases e : n < l
    · rw [ih e, Nat.zero_mul]
    · have : n - l = 0 := by omega
      rw [this, Nat.mul_zero]

/-- One more factor, over Int, whatever its sign. -/
theorem fal_int (n l : Nat) : (fal n l : Int) * ((n : Int) - l) = (fal n (l + 1) : Int) := by
  by_cases h : l ≤ n
  · rw [fal, Int.natCast_mul, Int.ofNat_sub h]
  · rw [fal_past (by omega : n < l), fal_past (by omega : n < l + 1)]
    simp

theorem fits_step {p k : Int} (hk : 0 < k) (hp : ¬ 65536 / k < p) : p * k ≤ 65536 := by
  have h1 : p * k ≤ 65536 / k * k := Int.mul_le_mul_of_nonneg_right (by omega) (by omega)
  have h2 := Int.ediv_mul_le 65536 (show k ≠ 0 by omega)
  omega

theorem below_take_le (xs : List Int) (i : Nat) (x : Int) : below (xs.take i) x ≤ i := by
  have h1 : below (xs.take i) x ≤ (xs.take i).length := List.countP_le_length
  have h2 := List.length_take_le i xs
  omega

theorem below_yes {xs : List Int} {i : Nat} {x : Int} (hi : i < xs.length) (h : xs[i]?.getD 0 < x) : below (xs.take (i + 1)) x = below (xs.take i) x + 1 := by
  rw [List.getElem?_eq_getElem hi] at h
  simp only [Option.getD_some] at h
  unfold below
  rw [List.take_succ_eq_append_getElem hi, List.countP_append]
  simp [h]

theorem below_no {xs : List Int} {i : Nat} {x : Int} (hi : i < xs.length) (h : x ≤ xs[i]?.getD 0) : below (xs.take (i + 1)) x = below (xs.take i) x := by
  rw [List.getElem?_eq_getElem hi] at h
  simp only [Option.getD_some] at h
  unfold below
  rw [List.take_succ_eq_append_getElem hi, List.countP_append]
  simp [show ¬ xs[i] < x by omega]

/-- ALL THAT THE LAW ASKS OF THE CHILD's PLACE. -/
theorem child_facts {N k p m Lc : Nat} (hp : p < fal N k) (hm : m < N) (hc : hasB (lab N k p) ((m : Int) + 1) = false) (hLc : Lc = fal N (k + 1) * (k + 1)) (hf : fal N (k + 1) ≤ 65536) :
    ∃ idx : Nat, (p : Int) * ((N : Int) - k) + (m : Int) - (below (lab N k p) ((m : Int) + 1) : Int) = (idx : Int) ∧ idx < 65536 ∧ ((idx : Int) + 1) * ((k : Int) + 1) ≤ (Lc : Int) ∧
      (∀ i, i < k → (row N (k + 1)).getD (idx * (k + 1) + i) 0 = (lab N k p).getD i 0) ∧ (row N (k + 1)).getD (idx * (k + 1) + k) 0 = (m : Int) + 1 ∧
      0 ≤ (p : Int) * ((N : Int) - k) ∧ (p : Int) * ((N : Int) - k) ≤ 65536 ∧ below (lab N k p) ((m : Int) + 1) ≤ m ∧ idx * (k + 1) + k < Lc := by
  obtain ⟨h1, h2, h3⟩ := child_lab hp hm hc
  have hkN := (kids_len_good (good_lab hp)).2
  have hlen := (good_lab hp).len
  obtain ⟨q, hq⟩ : ∃ q, q = p * (N - k) := ⟨_, rfl⟩
  have eq : (p : Int) * ((N : Int) - k) = (q : Int) := by rw [hq, ← Int.ofNat_sub hkN, Int.natCast_mul]
  rw [← hq] at h2 h3
  rw [eq]
  obtain ⟨idx, hidx⟩ : ∃ idx, idx = q + (m - below (lab N k p) ((m : Int) + 1)) := ⟨_, rfl⟩
  rw [← hidx] at h2 h3
  have hle : (idx + 1) * (k + 1) ≤ fal N (k + 1) * (k + 1) := Nat.mul_le_mul_right _ h2
  have hle' := hle
  rw [Nat.succ_mul] at hle'
  refine ⟨idx, by omega, by omega, ?_, ?_, ?_, by omega, by omega, h1, by omega⟩
  · rw [hLc, show (idx : Int) + 1 = ((idx + 1 : Nat) : Int) from rfl, show (k : Int) + 1 = ((k + 1 : Nat) : Int) from rfl, ← Int.natCast_mul]
    omega
  · intro i hi
    rw [row_getD h2 (by omega), h3, List.getD_eq_getElem?_getD, List.getD_eq_getElem?_getD, List.getElem?_append_left (by omega)]
  · rw [row_getD h2 (by omega), h3, List.getD_eq_getElem?_getD, List.getElem?_append_right (by omega), hlen]
    simp

end Go.Proofs.Qxb6602920aMods.EIG
