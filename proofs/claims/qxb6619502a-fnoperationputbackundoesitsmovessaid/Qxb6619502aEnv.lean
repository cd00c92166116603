/-
  What the loops of FnOperationPutBackUndoesItsMoves carry.
-/
import Derived.Test.Qxb6619502aPutZ
import Derived.Test.Qxb6619502aPlainPut
namespace Go.Proofs.Qxb6619502a
open Go.RowKit

def strCell (s : ByteArray) : List Value := [.string s]
theorem strCell_length (s : ByteArray) : (strCell s).length = 1 := rfl
theorem Strs.iff {w : World} {b off : Nat} {R : List ByteArray} : Strs w b off R ↔ Row w b off (R.flatMap strCell) := by
  constructor
  · intro h
    refine Row.of_elems (c := 1) (by omega) strCell_length (fun i hi => ?_)
    intro j v hv
    match j, hv with
    | 0, hv => simp [strCell] at hv; subst hv; rw [Nat.mul_one, Nat.add_zero]; exact h i hi
    | j + 1, hv => simp [strCell] at hv
  · intro h i hi
    have := (h.elem strCell_length i hi) 0 _ rfl
    rwa [Nat.mul_one, Nat.add_zero] at this

/-- A row of updates that the call has made. -/
def GotAt (w : World) (a : Option Addr) (U : List Upd) : Prop := U = [] ∨ ∃ g, a = some ⟨g, 0, none⟩ ∧ Row w g 0 (U.flatMap updCells)

theorem GotAt.of_own {w : World} {B : Nat} {v : Value} {U : List Upd} (h : w.ownsRow B 49 3 v U.length (U.flatMap updCells)) : ∃ a c, v = .slice a U.length c ∧ GotAt w a U := by
  rcases h.2 with ⟨rfl, h0⟩ | ⟨g, cap, cur, rfl, _⟩
  · exact ⟨none, 0, by rw [h0], .inl (List.eq_nil_of_length_eq_zero h0)⟩
  · refine ⟨_, cap, rfl, .inr ⟨g, rfl, fun j u hu => ?_⟩⟩
    have := h.cells (g := g) rfl j u hu
    rw [show (⟨g, 0, none⟩ : Addr).add j = ⟨g, 0 + j, none⟩ by unfold Addr.add; split <;> simp_all] at this
    exact this

theorem GotAt.below {w w' : World} {a : Option Addr} {U : List Upd} (h : GotAt w a U) (hb : Below w.heap.size w w') : GotAt w' a U := by
  rcases h with h | ⟨g, rfl, hr⟩
  · exact .inl h
  · by_cases hn : U = []
    · exact .inl hn
    · refine .inr ⟨g, rfl, hr.below hb (hr.lt ?_)⟩
      rw [flat_length updCells 3 updCells_length]
      have : U.length ≠ 0 := by simpa using hn
      omega

theorem GotAt.at {w : World} {a : Option Addr} {U : List Upd} (h : GotAt w a U) (k : Nat) (hk : k < U.length) :
    ∃ g, a = some ⟨g, 0, none⟩ ∧ w.cell? ⟨g, k * 3, none⟩ = some (.string (U[k]'hk).ref) ∧ w.cell? ⟨g, k * 3 + 1, none⟩ = some (.string (U[k]'hk).new) ∧ w.cell? ⟨g, k * 3 + 2, none⟩ = some (.string (U[k]'hk).old) := by
  rcases h with rfl | ⟨g, rfl, hr⟩
  · simp at hk
  · have := hr.elem updCells_length k hk
    rw [Nat.zero_add] at this
    exact ⟨g, rfl, this 0 _ rfl, this 1 _ rfl, this 2 _ rfl⟩

/-- The vals in their own block VB. -/
def Vals (wv w : World) (VB n : Nat) (vals : List ByteArray) : Prop := Strs w VB 0 vals ∧ Room w VB n ∧ Below VB wv w

theorem Vals.drewN {wv w : World} {VB n : Nat} {vals : List ByteArray} (h : Vals wv w VB n vals) (k : Nat) : Vals wv (w.drewN k) VB n vals := by
  refine ⟨fun j hj => h.1 j hj, ⟨fun j hj => h.2.1.cell j hj, fun j hj => h.2.1.free j hj⟩, drewN_below h.2.2 k⟩

/-- One of the vals stored. -/
theorem Vals.set {wv w : World} {VB n : Nat} {vals : List ByteArray} (h : Vals wv w VB n vals) (i : Nat) (hi : i < vals.length) (s : ByteArray) (vals' : List ByteArray) (e : vals' = vals.set i s) (hn : vals.length ≤ n) :
    Vals wv (w.setCell ⟨VB, i, none⟩ (.string s)) VB n vals' := by
  subst e
  refine ⟨fun j hj => ?_, h.2.1.set _ _, h.2.2.setCell (Nat.le_refl _) _⟩
  have hj' : j < vals.length := by simpa using hj
  rw [Nat.zero_add]
  by_cases hij : i = j
  · subst hij
    obtain ⟨u, hu⟩ := h.2.1.cell i (by omega)
    rw [World.cell?_setCell_same _ _ _ hu]
    simp
  · rw [setCell_ne (.inr (by omega))]
    have := h.1 j hj'
    rw [Nat.zero_add] at this
    rw [this]
    simp [hij]

/-- .. or one more. -/
theorem Vals.push {wv w : World} {VB n : Nat} {L : List ByteArray} {i : Nat} (hi : i < L.length) (h : Vals wv w VB n (L.take i)) (hn : L.length ≤ n) : Vals wv (w.setCell ⟨VB, i, none⟩ (.string (L[i]'hi))) VB n (L.take (i + 1)) := by
  refine ⟨?_, h.2.1.set _ _, h.2.2.setCell (Nat.le_refl _) _⟩
  rw [Strs.iff]
  have h1 := Strs.iff.1 h.1
  have := fill_step (f := strCell) (c := 1) (n := n) (by omega) strCell_length hi (by rw [Nat.mul_one]; exact h.2.1) hn h1
  rw [Nat.mul_one] at this
  exact this

theorem Distinct.pairwise {ss : List ByteArray} (h : Distinct ss) : ss.Pairwise (· ≠ ·) := by
  rw [List.pairwise_iff_getElem]
  intro i j hi hj hij e
  have := h i j hi hj hij
  rw [e] at this
  simp at this

end Go.Proofs.Qxb6619502a
