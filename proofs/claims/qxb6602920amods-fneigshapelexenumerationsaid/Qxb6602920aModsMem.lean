/-
  THE SHAPE IN MEMORY: 'sizes', 'members', the rows.
-/
import Derived.Test.Qxb6602920aModsLabel
import Derived.Deep.OwnRows
namespace Go.Proofs.Qxb6602920aMods
open Go.RowKit EIG
set_option linter.unusedVariables false

/-- Block bs is the struct; bz the sizes; bm the members' headers. All of them are the call's own (from block number B on). -/
structure Sh (B : Nat) (w : World) (bs bz bm N F : Nat) (z : Nat → Int) (mem : Nat → Value) : Prop where
  los : B ≤ bs
  loz : B ≤ bz
  lom : B ≤ bm
  sz : bs ≠ bz
  sm : bs ≠ bm
  zm : bz ≠ bm
  struct : w.rowIs bs 46 4 (fun i => if i = 0 then .int .i64 N else if i = 1 then .int .i64 F else if i = 2 then .slice (some ⟨bz, 0, none⟩) (F + 2) (F + 2) else .slice (some ⟨bm, 0, none⟩) (F + 1) (F + 1))
  sizes : w.rowIs bz 3 (F + 2) (fun i => .int .i64 (z i))
  mems : w.rowIs bm 23 (F + 1) mem

theorem Sh.of_blocks {B : Nat} {w w' : World} {bs bz bm N F : Nat} {z : Nat → Int} {mem : Nat → Value} (h : Sh B w bs bz bm N F z mem)
    (e : ∀ k, k < w.heap.size → w'.heap[k]? = w.heap[k]?) : Sh B w' bs bz bm N F z mem :=
  { h with struct := h.struct.of_block (e _ h.struct.lt), sizes := h.sizes.of_block (e _ h.sizes.lt), mems := h.mems.of_block (e _ h.mems.lt) }

theorem Sh.below {B : Nat} {w w' : World} {bs bz bm N F : Nat} {z : Nat → Int} {mem : Nat → Value} (h : Sh B w bs bz bm N F z mem) (hb : Below w.heap.size w w') : Sh B w' bs bz bm N F z mem :=
  h.of_blocks hb.block

theorem Sh.drew {B : Nat} {w : World} {bs bz bm N F : Nat} {z : Nat → Int} {mem : Nat → Value} (h : Sh B w bs bz bm N F z mem) : Sh B w.drew bs bz bm N F z mem := h.of_blocks (fun _ _ => rfl)

theorem Sh.cell2 {B : Nat} {w : World} {bs bz bm N F : Nat} {z : Nat → Int} {mem : Nat → Value} (h : Sh B w bs bz bm N F z mem) : w.cell? ⟨bs, 2, none⟩ = some (.slice (some ⟨bz, 0, none⟩) (F + 2) (F + 2)) :=
  h.struct.cell (by omega)
theorem Sh.cell3 {B : Nat} {w : World} {bs bz bm N F : Nat} {z : Nat → Int} {mem : Nat → Value} (h : Sh B w bs bz bm N F z mem) : w.cell? ⟨bs, 3, none⟩ = some (.slice (some ⟨bm, 0, none⟩) (F + 1) (F + 1)) :=
  h.struct.cell (by omega)

/-- A store into 'sizes'. -/
theorem Sh.setSize {B : Nat} {w : World} {bs bz bm N F : Nat} {z : Nat → Int} {mem : Nat → Value} (h : Sh B w bs bz bm N F z mem) (i : Nat) (v : Int) :
    Sh B (w.setCell ⟨bz, i, none⟩ (.int .i64 v)) bs bz bm N F (fun j => if j = i then v else z j) mem :=
  { h with struct := h.struct.setOther h.sz _, mems := h.mems.setOther (Ne.symm h.zm) _, sizes := (h.sizes.set i _).congr (fun j _ => by split <;> rfl) }

/-- A store into 'members'. -/
theorem Sh.setMem {B : Nat} {w : World} {bs bz bm N F : Nat} {z : Nat → Int} {mem : Nat → Value} (h : Sh B w bs bz bm N F z mem) (i : Nat) (v : Value) :
    Sh B (w.setCell ⟨bm, i, none⟩ v) bs bz bm N F z (fun j => if j = i then v else mem j) :=
  { h with struct := h.struct.setOther h.sm _, sizes := h.sizes.setOther h.zm _, mems := h.mems.set i _ }

theorem Sh.zcongr {B : Nat} {w : World} {bs bz bm N F : Nat} {z z' : Nat → Int} {mem : Nat → Value} (h : Sh B w bs bz bm N F z mem) (e : ∀ i, i < F + 2 → z i = z' i) : Sh B w bs bz bm N F z' mem :=
  { h with sizes := h.sizes.congr (fun i hi => by rw [e i hi]) }

theorem Sh.mcongr {B : Nat} {w : World} {bs bz bm N F : Nat} {z : Nat → Int} {mem mem' : Nat → Value} (h : Sh B w bs bz bm N F z mem) (e : ∀ i, i < F + 1 → mem i = mem' i) : Sh B w bs bz bm N F z mem' :=
  { h with mems := h.mems.congr e }

theorem struct_cells (N F : Int) (a b : Value) : ∀ i, i < (#[.int .i64 N, .int .i64 F, a, b] : Array Value).size → (#[.int .i64 N, .int .i64 F, a, b] : Array Value)[i]? = some (if i = 0 then .int .i64 N else if i = 1 then .int .i64 F else if i = 2 then a else b) := by
  intro i hi
  match i, hi with
  | 0, _ => rfl
  | 1, _ => rfl
  | 2, _ => rfl
  | 3, _ => rfl

/-- Laid with 'sizes' first. -/
theorem Sh.laid1 (w : World) (N F : Nat) :
    Sh w.heap.size (((w.alloc (.cells (madeCells #[.int .i64 0] (F + 2)) 3)).alloc (.cells (madeCells #[.slice none 0 0] (F + 1)) 23)).alloc
      (.cells #[.int .i64 N, .int .i64 F, .slice (some ⟨w.heap.size, 0, none⟩) (F + 2) (F + 2), .slice (some ⟨w.heap.size + 1, 0, none⟩) (F + 1) (F + 1)] 46))
      (w.heap.size + 2) w.heap.size (w.heap.size + 1) N F (fun _ => 0) (fun _ => .slice none 0 0) := by
  have h1 := World.rowIs_made w (.int .i64 0) (F + 2) 3
  have h2 := World.rowIs_made (w.alloc (.cells (madeCells #[.int .i64 0] (F + 2)) 3)) (.slice none 0 0) (F + 1) 23
  rw [World.size_alloc] at h2
  have h3 := World.rowIs_alloc ((w.alloc (.cells (madeCells #[.int .i64 0] (F + 2)) 3)).alloc (.cells (madeCells #[.slice none 0 0] (F + 1)) 23)) _ 46 _ (struct_cells N F (.slice (some ⟨w.heap.size, 0, none⟩) (F + 2) (F + 2)) (.slice (some ⟨w.heap.size + 1, 0, none⟩) (F + 1) (F + 1)))
  rw [World.size_alloc, World.size_alloc] at h3
  exact ⟨by omega, by omega, by omega, by omega, by omega, by omega, h3, (h1.alloc _).alloc _, h2.alloc _⟩

/-- Laid with 'members' first. -/
theorem Sh.laid2 (w : World) (N F : Nat) :
    Sh w.heap.size (((w.alloc (.cells (madeCells #[.slice none 0 0] (F + 1)) 23)).alloc (.cells (madeCells #[.int .i64 0] (F + 2)) 3)).alloc
      (.cells #[.int .i64 N, .int .i64 F, .slice (some ⟨w.heap.size + 1, 0, none⟩) (F + 2) (F + 2), .slice (some ⟨w.heap.size, 0, none⟩) (F + 1) (F + 1)] 46))
      (w.heap.size + 2) (w.heap.size + 1) w.heap.size N F (fun _ => 0) (fun _ => .slice none 0 0) := by
  have h1 := World.rowIs_made w (.slice none 0 0) (F + 1) 23
  have h2 := World.rowIs_made (w.alloc (.cells (madeCells #[.slice none 0 0] (F + 1)) 23)) (.int .i64 0) (F + 2) 3
  rw [World.size_alloc] at h2
  have h3 := World.rowIs_alloc ((w.alloc (.cells (madeCells #[.slice none 0 0] (F + 1)) 23)).alloc (.cells (madeCells #[.int .i64 0] (F + 2)) 3)) _ 46 _ (struct_cells N F (.slice (some ⟨w.heap.size + 1, 0, none⟩) (F + 2) (F + 2)) (.slice (some ⟨w.heap.size, 0, none⟩) (F + 1) (F + 1)))
  rw [World.size_alloc, World.size_alloc] at h3
  exact ⟨by omega, by omega, by omega, by omega, by omega, by omega, h3, h2.alloc _, (h1.alloc _).alloc _⟩

/-- Element i of 'members' is the row of the labels of length i. -/
structure Rw (B : Nat) (w : World) (bs bz bm N i : Nat) (v : Value) (b : Nat) : Prop where
  val : v = .slice (some ⟨b, 0, none⟩) (fal N i * i) (fal N i * i)
  lo : B ≤ b
  s : b ≠ bs
  z : b ≠ bz
  m : b ≠ bm
  is : w.rowIs b 3 (fal N i * i) (fun j => .int .i64 ((row N i).getD j 0))

/-- The rows 1 to k are there; row 0 is nil. -/
structure Rws (B : Nat) (w : World) (bs bz bm N k : Nat) (mem : Nat → Value) : Prop where
  nil : mem 0 = .slice none 0 0
  rows : ∀ i, 1 ≤ i → i ≤ k → ∃ b, Rw B w bs bz bm N i (mem i) b

theorem Rws.of_blocks {B : Nat} {w w' : World} {bs bz bm N k : Nat} {mem : Nat → Value} (h : Rws B w bs bz bm N k mem) (e : ∀ b, b < w.heap.size → b ≠ bs → b ≠ bz → b ≠ bm → w'.heap[b]? = w.heap[b]?) : Rws B w' bs bz bm N k mem :=
  ⟨h.nil, fun i h1 h2 => by
    obtain ⟨b, hb⟩ := h.rows i h1 h2
    exact ⟨b, { hb with is := hb.is.of_block (e b hb.is.lt hb.s hb.z hb.m) }⟩⟩

theorem Rws.below {B : Nat} {w w' : World} {bs bz bm N k : Nat} {mem : Nat → Value} (h : Rws B w bs bz bm N k mem) (hb : Below w.heap.size w w') : Rws B w' bs bz bm N k mem :=
  h.of_blocks (fun b hlt _ _ _ => hb.block b hlt)

/-- What was gathered is the whole row. -/
theorem rowIs_of_owns {w : World} {base g n : Nat} {xs : List Int} (h : w.ownsRow base 3 1 (.slice (some ⟨g, 0, none⟩) n n) n (xs.map (Value.int .i64))) :
    w.rowIs g 3 n (fun j => .int .i64 (xs.getD j 0)) := by
  obtain ⟨hl, h | ⟨g', cap, cur, hv, _, hb, _, _, hs, ht⟩⟩ := h
  · cases h.1
  · cases hv
    rw [List.length_map, Nat.mul_one] at hl
    rw [Nat.mul_one] at hs ht
    refine ⟨cur, hb, hs, fun i hi => ?_⟩
    rw [List.take_of_length_le (by rw [Array.length_toList]; omega)] at ht
    rw [← Array.getElem?_toList, ht, List.getElem?_map]
    show _ = some (Value.int .i64 (xs.getD i 0))
    rw [List.getD_eq_getElem?_getD, List.getElem?_eq_getElem (by omega)]
    rfl

/-- Where a slice's numbers lie: nowhere (nil), or behind one another in one block. -/
def Src (w : World) (ao : Option Addr) (cs : Nat) (xs : List Int) : Prop :=
  (ao = none ∧ cs = 0 ∧ xs = []) ∨ ∃ b off, ao = some ⟨b, off, none⟩ ∧ b < w.heap.size ∧ ∀ i, i < xs.length → w.cell? ⟨b, off + i, none⟩ = some (.int .i64 (xs.getD i 0))

theorem Src.below {w w' : World} {ao : Option Addr} {cs : Nat} {xs : List Int} (h : Src w ao cs xs) (hb : Below w.heap.size w w') : Src w' ao cs xs := by
  rcases h with h | ⟨b, off, h1, h2, h3⟩
  · exact .inl h
  · exact .inr ⟨b, off, h1, Nat.lt_of_lt_of_le h2 hb.size, fun i hi => (hb.cell (p := ⟨b, off + i, none⟩) h2).trans (h3 i hi)⟩

theorem Src.row {w : World} {ao : Option Addr} {cs : Nat} {xs : List Int} (h : Src w ao cs xs) {n : Nat} (hn : xs.length = n) : Row w (.slice ao n cs) xs := by
  subst hn
  refine ⟨ao, cs, rfl, fun h0 => ?_⟩
  rcases h with ⟨_, _, rfl⟩ | ⟨b, off, h1, _, h3⟩
  · simp at h0
  · exact ⟨b, off, h1, h3⟩

theorem Src.none {w : World} {ao : Option Addr} {cs : Nat} {xs : List Int} (h : Src w ao cs xs) {n : Nat} (hn : xs.length = n) : ao = none → n = 0 ∧ cs = 0 := by
  subst hn
  intro h0
  rcases h with ⟨_, hc, rfl⟩ | ⟨b, off, h1, _⟩
  · exact ⟨rfl, hc⟩
  · rw [h0] at h1; cases h1

theorem Src.cells {w : World} {ao : Option Addr} {cs : Nat} {xs : List Int} (h : Src w ao cs xs) : ∀ ad, ao = some ad → ∀ j u, (xs.map (Value.int .i64))[j]? = some u → w.cell? (ad.add j) = some u := by
  intro ad had j u hu
  rcases h with ⟨h0, _⟩ | ⟨b, off, h1, _, h3⟩
  · rw [h0] at had; cases had
  · rw [h1] at had
    obtain rfl := Option.some.inj had
    have hj : j < xs.length := by simpa using (List.getElem?_eq_some_iff.1 hu).1
    rw [Addr.add_lit, h3 j hj, ← hu, List.getElem?_map, List.getD_eq_getElem?_getD, List.getElem?_eq_getElem hj]
    rfl

/-- What 'label' answers. -/
def LabPost (w : World) (k : Nat) (xs : List Int) (e : Ending) : Prop := ∃ ao cs, e = .returned (.slice ao k cs) ∧ Src w ao cs xs

theorem lab_index {N k p : Nat} (hp : p < fal N k) : ((p : Int) + 1) * k ≤ ((fal N k * k : Nat) : Int) ∧ 0 ≤ (p : Int) * k ∧ (p : Int) * k ≤ ((p : Int) + 1) * k := by
  have h1 : (p + 1) * k ≤ fal N k * k := Nat.mul_le_mul_right _ hp
  have h2 : p * k ≤ (p + 1) * k := Nat.mul_le_mul_right _ (by omega)
  have e1 : (((p + 1) * k : Nat) : Int) = ((p : Int) + 1) * k := by rw [Int.natCast_mul]; rfl
  have e2 : ((p * k : Nat) : Int) = (p : Int) * k := by rw [Int.natCast_mul]
  rw [← e1, ← e2]
  omega

theorem label_any {B : Nat} {wr wq : World} {bs bz bm N F k p : Nat} {z : Nat → Int} {mem : Nat → Value} (hsh : Sh B wr bs bz bm N F z mem) (hr : Rws B wr bs bz bm N k mem) (hb : Below wr.heap.size wr wq)
    (hk : k ≤ F) (hF : F ≤ 65536) (hp : p < fal N k) (hf : fal N k ≤ 65536) :
    Calls Trym.prog 30 #[.pointer (some ⟨bs, 0, none⟩), .int .i64 k, .int .i64 p] wq fun e w' => LabPost wr k (lab N k p) e ∧ w' = wq := by
  have h3 := (hsh.below hb).cell3
  have hm := (hsh.below hb).mems.cell (i := k) (by omega)
  by_cases h0 : k = 0
  · subst h0
    rw [hr.nil] at hm
    exact (label_zero bs bm p (F + 1) wq (by omega) (by omega) (by omega) h3 hm).mono fun e w' ⟨he, hw⟩ => ⟨⟨none, 0, he, .inl ⟨rfl, rfl, by
      have := (good_lab hp).len
      exact List.eq_nil_of_length_eq_zero this⟩⟩, hw⟩
  · obtain ⟨b, hrow⟩ := hr.rows k (by omega) (Nat.le_refl _)
    rw [hrow.val] at hm
    obtain ⟨i1, i2, i3⟩ := lab_index hp
    have hC : fal N k * k ≤ 65536 * 65536 := Nat.mul_le_mul hf (by omega)
    have i4 : (p : Int) * k < ((fal N k * k : Nat) : Int) := by
      have e : ((p : Int) + 1) * k = (p : Int) * k + k := by rw [Int.add_mul, Int.one_mul]
      rw [e] at i1
      omega
    refine (label_some bs bm b k p (F + 1) (fal N k * k) (fal N k * k) wq (by omega) (by omega) h3 hm i1 (Nat.le_refl _) (by omega) (by omega) i4 i2 i3).mono fun e w' ⟨he, hw⟩ => ⟨⟨_, _, he, .inr ⟨b, p * k, rfl, hrow.is.lt, fun i hi => ?_⟩⟩, hw⟩
    rw [(good_lab hp).len] at hi
    have hlt : p * k + i < fal N k * k := by
      have : (p + 1) * k ≤ fal N k * k := Nat.mul_le_mul_right _ hp
      rw [Nat.succ_mul] at this
      omega
    rw [hrow.is.cell hlt, row_getD hp hi]

end Go.Proofs.Qxb6602920aMods
