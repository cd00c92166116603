/-
  Rows of three-cell elements of the call's own: the copy of the tokens; a row that is filled.
-/
import Derived.Test.Qxb6619490aBytes
import Derived.Laws.CopyRow
import Derived.Laws.Cover3
namespace Go.Proofs.Qxb6619490a
open Go.RowKit

/-- 'copy(dst, src)' where an element takes more than one cell. -/
theorem run_copy_wide (P : Program) (w : World) (dT sT ty elem : TypeId) (g n dCap : Nat) (a : Addr) (sCap sz : Nat) (cur : Array Value) (t : TypeId) (cs : List Value)
    (hu : P.underlying dT = some (.slice elem)) (hs : (P.info? elem).map (·.size) = some sz)
    (hg : w.heap[g]? = some (.cells cur t (0, 0))) (hn : cs.length = n * sz)
    (hsrc : ∀ j v, cs[j]? = some v → w.cell? (a.add j) = some v) (hfit : cs.length ≤ cur.size) (h1 : ∀ v ∈ cs, v.oneCell' = true) :
    (Builtin.copy_ #[dT, sT] ty #[.slice (some ⟨g, 0, none⟩) n dCap, .slice (some a) n sCap]).run P w =
      .ok (goInt n) (w.setRow g (cs ++ cur.toList.drop cs.length).toArray) := by
  have hl := run_loadCells_list (P := P) w a cs hsrc
  have hst := run_storeCells_at P g 0 t cs 0 cur w hg (by simpa using hfit) h1
  cases hq : P.info? elem with
  | none => simp [hq] at hs
  | some i =>
    have hi : i.size = sz := by simpa [hq] using hs
    simp [Builtin.copy_, run_underlying hu, Builtin.lenOf, Builtin.firstCells, sizeOf, typeInfo, hq, hi, ← hn, hl, hst]

/-- The cells of tokens. -/
def cellsOf (T : List Tok) : List Value := T.flatMap fun t => [.int .u8 t.k, .string t.s, .int .i64 t.o]

theorem cellsOf_length (T : List Tok) : (cellsOf T).length = T.length * 3 := by
  unfold cellsOf
  induction T with
  | nil => rfl
  | cons t T ih => simp [List.flatMap_cons] at ih ⊢; omega

theorem cellsOf_at (T : List Tok) : ∀ (j : Nat) (h : j < T.length), (cellsOf T)[j * 3]? = some (.int .u8 (T[j]'h).k) ∧ (cellsOf T)[j * 3 + 1]? = some (.string (T[j]'h).s) ∧ (cellsOf T)[j * 3 + 2]? = some (.int .i64 (T[j]'h).o) := by
  induction T with
  | nil => intro j h; simp at h
  | cons t T ih =>
    intro j h
    cases j with
    | zero => simp [cellsOf]
    | succ j =>
      have := ih j (by simpa using h)
      have e : cellsOf (t :: T) = [.int .u8 t.k, .string t.s, .int .i64 t.o] ++ cellsOf T := by simp [cellsOf]
      rw [e]
      have e1 : (j + 1) * 3 = 3 + j * 3 := by omega
      refine ⟨?_, ?_, ?_⟩
      · rw [List.getElem?_append_right (by simp; omega)]
        simp only [List.length_cons, List.length_nil, List.getElem_cons_succ]
        rw [show (j + 1) * 3 - (0 + 1 + 1 + 1) = j * 3 by omega]
        exact this.1
      · rw [List.getElem?_append_right (by simp; omega)]
        simp only [List.length_cons, List.length_nil, List.getElem_cons_succ]
        rw [show (j + 1) * 3 + 1 - (0 + 1 + 1 + 1) = j * 3 + 1 by omega]
        exact this.2.1
      · rw [List.getElem?_append_right (by simp; omega)]
        simp only [List.length_cons, List.length_nil, List.getElem_cons_succ]
        rw [show (j + 1) * 3 + 2 - (0 + 1 + 1 + 1) = j * 3 + 2 by omega]
        exact this.2.2

theorem cellsOf_one (T : List Tok) : ∀ u ∈ cellsOf T, u.oneCell' = true := by
  intro u hu
  unfold cellsOf at hu
  rw [List.mem_flatMap] at hu
  obtain ⟨t, _, h⟩ := hu
  simp at h
  rcases h with rfl | rfl | rfl <;> rfl

/-- Tokens that lie in memory: cell by cell. -/
theorem Toks.cells {w : World} {b off : Nat} {T : List Tok} (h : Toks w b off T) : ∀ j v, (cellsOf T)[j]? = some v → w.cell? ((⟨b, off, none⟩ : Addr).add j) = some v := by
  intro j v hv
  have hj : j < T.length * 3 := by rw [← cellsOf_length]; exact (List.getElem?_eq_some_iff.1 hv).1
  have ha : (⟨b, off, none⟩ : Addr).add j = ⟨b, off + j, none⟩ := by unfold Addr.add; split <;> simp_all
  rw [ha]
  have hq : j / 3 < T.length := by omega
  obtain ⟨e0, e1, e2⟩ := cellsOf_at T (j / 3) hq
  obtain ⟨c0, c1, c2⟩ := h (j / 3) hq
  have hr : j % 3 = 0 ∨ j % 3 = 1 ∨ j % 3 = 2 := by omega
  rcases hr with hr | hr | hr
  · have : j = j / 3 * 3 := by omega
    rw [← this] at e0
    rw [e0] at hv
    cases hv
    rw [← this] at c0
    exact c0
  · have : j = j / 3 * 3 + 1 := by omega
    rw [← this] at e1
    rw [e1] at hv
    cases hv
    rw [Nat.add_assoc, ← this] at c1
    exact c1
  · have : j = j / 3 * 3 + 2 := by omega
    rw [← this] at e2
    rw [e2] at hv
    cases hv
    rw [Nat.add_assoc, ← this] at c2
    exact c2

theorem Toks.of_row {w : World} {g : Nat} {cur : Array Value} {t : TypeId} {fr : Nat × Nat} {T : List Tok} (hg : w.heap[g]? = some (.cells cur t fr)) (hc : ∀ (j : Nat) (v : Value), (cellsOf T)[j]? = some v → cur[j]? = some v) : Toks w g 0 T := by
  intro j h
  obtain ⟨e0, e1, e2⟩ := cellsOf_at T j h
  rw [Nat.zero_add]
  exact ⟨by rw [cell_of_row w g _ cur t fr hg]; exact hc _ _ e0, by rw [cell_of_row w g _ cur t fr hg]; exact hc _ _ e1, by rw [cell_of_row w g _ cur t fr hg]; exact hc _ _ e2⟩

theorem Toks.below {B : Nat} {w w' : World} {b off : Nat} {T : List Tok} (h : Toks w b off T) (hb : Below B w w') (hlt : b < B) : Toks w' b off T := by
  intro j hj
  obtain ⟨c0, c1, c2⟩ := h j hj
  exact ⟨(bel_cell hb hlt _).trans c0, (bel_cell hb hlt _).trans c1, (bel_cell hb hlt _).trans c2⟩

/-- The copy of the tokens into a row of the call's own. -/
theorem copied (w : World) (b off cap : Nat) (C : Array Value) (T : List Tok) (hC : C.size = T.length * 3) (hs : Toks w b off T) :
    ∃ w1, (Builtin.copy_ #[22, 22] 3 #[.slice (some ⟨w.heap.size, 0, none⟩) T.length T.length, .slice (some ⟨b, off, none⟩) T.length cap]).run Try.prog (w.alloc (.cells C 25)) = .ok (goInt T.length) w1 ∧ Below w.heap.size w w1 ∧ w1.heap.size = w.heap.size + 1 ∧
      Toks w1 w.heap.size 0 T := by
  have hg : (w.alloc (.cells C 25)).heap[w.heap.size]? = some (.cells C 25 (0, 0)) := heap_alloc_new w _
  have hcp := run_copy_wide Try.prog (w.alloc (.cells C 25)) 22 22 3 25 w.heap.size T.length T.length ⟨b, off, none⟩ cap 3 C 25 (cellsOf T) Try.underlying22 (by kernel_rfl) hg (cellsOf_length T)
    (fun j v hv => by
      have h := hs.cells j v hv
      have hb := World.block_lt_of_cell? w _ h
      rw [World.cell?_alloc_lt _ _ _ hb]
      exact h) (by rw [cellsOf_length, hC]; exact Nat.le_refl _) (cellsOf_one T)
  refine ⟨_, hcp, ?_, ?_, ?_⟩
  · refine ⟨rfl, rfl, rfl, ?_, ?_⟩
    · simp [World.setRow]
    · intro k hk
      simp only [World.setRow, Array.getElem?_modify]
      rw [if_neg (by omega)]
      exact Below.heap_alloc w _ k hk
  · simp [World.setRow]
  · refine Toks.of_row (setRow_heap _ _ C _ 25 (0, 0) hg) (fun j v hv => ?_)
    have hj := (List.getElem?_eq_some_iff.1 hv).1
    simp only [List.getElem?_toArray]
    rw [List.getElem?_append_left hj]
    exact hv

/-- The first m cells of block g are there and may be written. -/
structure Room (w : World) (g m : Nat) : Prop where
  cell : ∀ j, j < m → ∃ u, w.cell? ⟨g, j, none⟩ = some u
  free : ∀ j, j < m → w.frozen? ⟨g, j, none⟩ = false

theorem Room.set {w : World} {g m : Nat} (h : Room w g m) (a : Addr) (v : Value) : Room (w.setCell a v) g m := by
  refine ⟨fun j hj => ?_, fun j hj => by rw [World.frozen?_setCell]; exact h.free j hj⟩
  obtain ⟨u, hu⟩ := h.cell j hj
  by_cases e : a = ⟨g, j, none⟩
  · subst e
    exact ⟨v, World.cell?_setCell_same _ _ _ hu⟩
  · exact ⟨u, by rw [World.cell?_setCell_other _ _ _ _ e]; exact hu⟩

theorem Room.below {B : Nat} {w w' : World} {g m : Nat} (h : Room w g m) (hb : Below B w w') (hlt : g < B) : Room w' g m :=
  ⟨fun j hj => by obtain ⟨u, hu⟩ := h.cell j hj; exact ⟨u, (bel_cell hb hlt _).trans hu⟩, fun j hj => (bel_frozen hb hlt _).trans (h.free j hj)⟩

theorem Room.made (w : World) (C : Array Value) (t : TypeId) (m : Nat) (h : C.size = m) : Room (w.alloc (.cells C t)) w.heap.size m := by
  refine ⟨fun j hj => ⟨C[j]'(by omega), ?_⟩, fun j hj => ?_⟩
  · simp
  · simp

theorem setCell_ne {w : World} {g o : Nat} {v : Value} {b j : Nat} (h : b ≠ g ∨ j ≠ o) : (w.setCell ⟨g, o, none⟩ v).cell? ⟨b, j, none⟩ = w.cell? ⟨b, j, none⟩ := by
  refine World.cell?_setCell_other _ _ _ _ ?_
  intro e
  rcases h with h | h
  · exact h (congrArg Addr.block e).symm
  · exact h (congrArg Addr.off e).symm

/-- One token more in a row that is filled. -/
theorem fill_step {w : World} {g : Nat} {T : List Tok} {i : Nat} (hi : i < T.length) (hr : Room w g (T.length * 3)) (ht : Toks w g 0 (T.take i)) :
    Toks (((w.setCell ⟨g, i * 3, none⟩ (.int .u8 (T[i]'hi).k)).setCell ⟨g, i * 3 + 1, none⟩ (.string (T[i]'hi).s)).setCell ⟨g, i * 3 + 2, none⟩ (.int .i64 (T[i]'hi).o)) g 0 (T.take (i + 1)) := by
  intro j hj
  have hj1 : j < i + 1 := by simp at hj; omega
  rw [List.getElem_take, Nat.zero_add]
  obtain ⟨u0, h0⟩ := hr.cell (i * 3) (by omega)
  obtain ⟨u1, h1⟩ := hr.cell (i * 3 + 1) (by omega)
  obtain ⟨u2, h2⟩ := hr.cell (i * 3 + 2) (by omega)
  by_cases e : j = i
  · subst e
    refine ⟨?_, ?_, ?_⟩
    · rw [setCell_ne (.inr (by omega)), setCell_ne (.inr (by omega))]
      exact World.cell?_setCell_same _ _ _ h0
    · rw [setCell_ne (.inr (by omega))]
      exact World.cell?_setCell_same _ _ _ (by rw [setCell_ne (.inr (by omega))]; exact h1)
    · exact World.cell?_setCell_same _ _ _ (by rw [setCell_ne (.inr (by omega)), setCell_ne (.inr (by omega))]; exact h2)
  · have hlt : j < i := by omega
    obtain ⟨c0, c1, c2⟩ := ht j (by simp; omega)
    rw [List.getElem_take, Nat.zero_add] at c0 c1 c2
    refine ⟨?_, ?_, ?_⟩
    · rw [setCell_ne (.inr (by omega)), setCell_ne (.inr (by omega)), setCell_ne (.inr (by omega))]; exact c0
    · rw [setCell_ne (.inr (by omega)), setCell_ne (.inr (by omega)), setCell_ne (.inr (by omega))]; exact c1
    · rw [setCell_ne (.inr (by omega)), setCell_ne (.inr (by omega)), setCell_ne (.inr (by omega))]; exact c2

theorem Toks.set {w : World} {b off : Nat} {T : List Tok} (h : Toks w b off T) {g o : Nat} (hne : b ≠ g) (v : Value) : Toks (w.setCell ⟨g, o, none⟩ v) b off T := by
  intro j hj
  obtain ⟨c0, c1, c2⟩ := h j hj
  exact ⟨by rw [setCell_ne (.inl hne)]; exact c0, by rw [setCell_ne (.inl hne)]; exact c1, by rw [setCell_ne (.inl hne)]; exact c2⟩

end Go.Proofs.Qxb6619490a
