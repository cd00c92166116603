/-
  Rows of elements of several cells: lying in memory, filled one by one.
-/
import Derived.Test.Qxb6619502aBytes
namespace Go.Proofs.Qxb6619502a
open Go.RowKit

/-- The cells L lie in block b from off on. -/
def Row (w : World) (b off : Nat) (L : List Value) : Prop := ∀ (j : Nat) (v : Value), L[j]? = some v → w.cell? ⟨b, off + j, none⟩ = some v

theorem Row.below {B : Nat} {w w' : World} {b off : Nat} {L : List Value} (h : Row w b off L) (hb : Below B w w') (hlt : b < B) : Row w' b off L :=
  fun j v hv => (bel_cell hb hlt _).trans (h j v hv)

theorem Row.nil (w : World) (b off : Nat) : Row w b off [] := fun j v h => by simp at h

theorem Row.lt {w : World} {b off : Nat} {L : List Value} (h : Row w b off L) (hn : 0 < L.length) : b < w.heap.size :=
  World.block_lt_of_cell? w _ (h 0 (L[0]'hn) (List.getElem?_eq_getElem hn))

theorem flat_length {α : Type} (f : α → List Value) (c : Nat) (hf : ∀ x, (f x).length = c) (L : List α) : (L.flatMap f).length = L.length * c := by
  induction L with
  | nil => simp
  | cons a L ih => rw [List.flatMap_cons, List.length_append, hf, ih, List.length_cons, Nat.succ_mul]; omega

theorem flat_at {α : Type} (f : α → List Value) (c : Nat) (hf : ∀ x, (f x).length = c) : ∀ (L : List α) (i : Nat) (hi : i < L.length) (k : Nat), k < c → (L.flatMap f)[i * c + k]? = (f (L[i]'hi))[k]? := by
  intro L
  induction L with
  | nil => intro i hi; simp at hi
  | cons a L ih =>
    intro i hi k hk
    rw [List.flatMap_cons]
    cases i with
    | zero =>
      rw [Nat.zero_mul, Nat.zero_add, List.getElem?_append_left (by rw [hf]; exact hk)]
      rfl
    | succ i =>
      rw [List.getElem?_append_right (by rw [hf, Nat.succ_mul]; omega), hf]
      rw [show (i + 1) * c + k - c = i * c + k by rw [Nat.succ_mul]; omega]
      exact ih i (by simpa using hi) k hk

/-- Element by element. -/
theorem Row.elem {α : Type} {f : α → List Value} {c : Nat} (hf : ∀ x, (f x).length = c) {w : World} {b off : Nat} {L : List α} (h : Row w b off (L.flatMap f)) (i : Nat) (hi : i < L.length) : Row w b (off + i * c) (f (L[i]'hi)) := by
  intro j v hv
  have hj : j < c := by rw [← hf (L[i]'hi)]; exact (List.getElem?_eq_some_iff.1 hv).1
  rw [Nat.add_assoc]
  exact h (i * c + j) v (by rw [flat_at f c hf L i hi j hj]; exact hv)

theorem Row.of_elems {α : Type} {f : α → List Value} {c : Nat} (hc : 0 < c) (hf : ∀ x, (f x).length = c) {w : World} {b off : Nat} {L : List α} (h : ∀ i (hi : i < L.length), Row w b (off + i * c) (f (L[i]'hi))) : Row w b off (L.flatMap f) := by
  intro j v hv
  have hj : j < L.length * c := by rw [← flat_length f c hf]; exact (List.getElem?_eq_some_iff.1 hv).1
  have hi : j / c < L.length := Nat.div_lt_of_lt_mul (by rw [Nat.mul_comm]; exact hj)
  have hk : j % c < c := Nat.mod_lt _ hc
  have e : j / c * c + j % c = j := by rw [Nat.mul_comm]; exact Nat.div_add_mod j c
  have := flat_at f c hf L (j / c) hi (j % c) hk
  rw [e, hv] at this
  have h2 := h (j / c) hi (j % c) v this.symm
  rw [Nat.add_assoc, e] at h2
  exact h2

/-- The first m cells of block g are there and may be written. -/
structure Room (w : World) (g m : Nat) : Prop where
  cell : ∀ j, j < m → ∃ u, w.cell? ⟨g, j, none⟩ = some u
  free : ∀ j, j < m → w.frozen? ⟨g, j, none⟩ = false

theorem Room.set {w : World} {g m : Nat} (h : Room w g m) (a : Addr) (v : Value) : Room (w.setCell a v) g m := by
  refine ⟨fun j hj => ?_, fun j hj => by rw [World.frozen?_setCell]; exact h.free j hj⟩
  obtain ⟨u, hu⟩ := h.cell j hj
  by_cases e : a = ⟨g, j, none⟩
  · subst e
    exact ⟨v, World.cell?_setCell_same _ _ _ hu⟩
  · exact ⟨u, by rw [World.cell?_setCell_other _ _ _ _ e]; exact hu⟩

theorem Room.below {B : Nat} {w w' : World} {g m : Nat} (h : Room w g m) (hb : Below B w w') (hlt : g < B) : Room w' g m :=
  ⟨fun j hj => by obtain ⟨u, hu⟩ := h.cell j hj; exact ⟨u, (bel_cell hb hlt _).trans hu⟩, fun j hj => (bel_frozen hb hlt _).trans (h.free j hj)⟩

theorem Room.made (w : World) (C : Array Value) (t : TypeId) (m : Nat) (h : C.size = m) : Room (w.alloc (.cells C t)) w.heap.size m := by
  refine ⟨fun j hj => ⟨C[j]'(by omega), ?_⟩, fun j hj => ?_⟩
  · simp
  · simp

theorem Room.lt {w : World} {g m : Nat} (h : Room w g m) (hm : 0 < m) : g < w.heap.size := by
  obtain ⟨u, hu⟩ := h.cell 0 hm
  exact World.block_lt_of_cell? w _ hu

theorem setCell_ne {w : World} {g o : Nat} {v : Value} {b j : Nat} (h : b ≠ g ∨ j ≠ o) : (w.setCell ⟨g, o, none⟩ v).cell? ⟨b, j, none⟩ = w.cell? ⟨b, j, none⟩ := by
  refine World.cell?_setCell_other _ _ _ _ ?_
  intro e
  rcases h with h | h
  · exact h (congrArg Addr.block e).symm
  · exact h (congrArg Addr.off e).symm

/-- Cells stored one behind the other. -/
def stores (w : World) (g : Nat) : Nat → List Value → World
  | _, [] => w
  | o, v :: vs => stores (w.setCell ⟨g, o, none⟩ v) g (o + 1) vs

theorem stores_size (g : Nat) : ∀ (vs : List Value) (w : World) (o : Nat), (stores w g o vs).heap.size = w.heap.size
  | [], _, _ => rfl
  | v :: vs, w, o => by rw [stores, stores_size g vs]; simp

theorem stores_other (g : Nat) : ∀ (vs : List Value) (w : World) (o : Nat) (b j : Nat), (b ≠ g ∨ j < o ∨ o + vs.length ≤ j) → (stores w g o vs).cell? ⟨b, j, none⟩ = w.cell? ⟨b, j, none⟩
  | [], _, _, _, _, _ => rfl
  | v :: vs, w, o, b, j, h => by
    rw [stores, stores_other g vs _ _ _ _ (by simp at h; omega), setCell_ne (by simp at h; omega)]

theorem stores_room (g m : Nat) : ∀ (vs : List Value) (w : World) (o : Nat), Room w g m → Room (stores w g o vs) g m
  | [], _, _, h => h
  | _ :: vs, _, _, h => stores_room g m vs _ _ (h.set _ _)

theorem stores_row (g m : Nat) : ∀ (vs : List Value) (w : World) (o : Nat), Room w g m → o + vs.length ≤ m → Row (stores w g o vs) g o vs
  | [], w, o, _, _ => Row.nil _ _ _
  | v :: vs, w, o, h, hm => by
    simp at hm
    have ih := stores_row g m vs (w.setCell ⟨g, o, none⟩ v) (o + 1) (h.set _ _) (by omega)
    intro j u hu
    cases j with
    | zero =>
      simp at hu
      subst hu
      rw [stores, Nat.add_zero, stores_other g vs _ _ _ _ (.inr (.inl (by omega)))]
      obtain ⟨u, hu⟩ := h.cell o (by omega)
      exact World.cell?_setCell_same _ _ _ hu
    | succ j =>
      have := ih j u (by simpa using hu)
      rw [stores, show o + (j + 1) = o + 1 + j by omega]
      exact this

theorem stores_below {B g : Nat} (hB : B ≤ g) {w0 : World} : ∀ (vs : List Value) (w : World) (o : Nat), Below B w0 w → Below B w0 (stores w g o vs)
  | [], _, _, h => h
  | v :: vs, _, o, h => stores_below hB vs _ _ (h.setCell (p := ⟨g, o, none⟩) hB v)

/-- One element more in a row that is filled. -/
theorem fill_step {α : Type} {f : α → List Value} {c : Nat} (hc : 0 < c) (hf : ∀ x, (f x).length = c) {w : World} {g n : Nat} {L : List α} {i : Nat} (hi : i < L.length) (hr : Room w g (n * c)) (hn : L.length ≤ n)
    (h : Row w g 0 ((L.take i).flatMap f)) : Row (stores w g (i * c) (f (L[i]'hi))) g 0 ((L.take (i + 1)).flatMap f) := by
  refine Row.of_elems hc hf (fun j hj => ?_)
  have hj1 : j < i + 1 := by simp at hj; omega
  rw [List.getElem_take, Nat.zero_add]
  by_cases e : j = i
  · subst e
    refine stores_row g (n * c) _ _ _ hr ?_
    rw [hf]
    have : (j + 1) * c ≤ n * c := Nat.mul_le_mul_right c (by omega)
    rw [Nat.succ_mul] at this
    exact this
  · have hlt : j < i := by omega
    have := h.elem hf j (by simp; omega)
    rw [List.getElem_take, Nat.zero_add] at this
    intro x v hv
    have hx : x < c := by rw [← hf (L[j]'(by omega))]; exact (List.getElem?_eq_some_iff.1 hv).1
    have hle : (j + 1) * c ≤ i * c := Nat.mul_le_mul_right c (by omega)
    rw [Nat.succ_mul] at hle
    rw [stores_other g _ _ _ _ _ (.inr (.inl (by omega)))]
    exact this x v hv

/-- The cells of a move. -/
def mvCells (m : Mv) : List Value := [.string m.name, .string m.parent, .string m.base, .string m.head, .string m.onto]
theorem mvCells_length (m : Mv) : (mvCells m).length = 5 := rfl

theorem Mvs.iff {w : World} {b off : Nat} {M : List Mv} : Mvs w b off M ↔ Row w b off (M.flatMap mvCells) := by
  constructor
  · intro h
    refine Row.of_elems (c := 5) (by omega) mvCells_length (fun i hi => ?_)
    obtain ⟨c0, c1, c2, c3, c4⟩ := h i hi
    intro j v hv
    match j, hv with
    | 0, hv => simp [mvCells] at hv; subst hv; exact c0
    | 1, hv => simp [mvCells] at hv; subst hv; exact c1
    | 2, hv => simp [mvCells] at hv; subst hv; exact c2
    | 3, hv => simp [mvCells] at hv; subst hv; exact c3
    | 4, hv => simp [mvCells] at hv; subst hv; exact c4
    | j + 5, hv => simp [mvCells] at hv
  · intro h i hi
    have := h.elem mvCells_length i hi
    exact ⟨this 0 _ rfl, this 1 _ rfl, this 2 _ rfl, this 3 _ rfl, this 4 _ rfl⟩

end Go.Proofs.Qxb6619502a
