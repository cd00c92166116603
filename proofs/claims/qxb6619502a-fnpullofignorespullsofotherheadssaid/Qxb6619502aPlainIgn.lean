/-
  What the law FnPullOfIgnoresPullsOfOtherHeads leans on: plain, and what its loops keep.
-/
import Derived.Test.Qxb6619502aPlainPull
namespace Go.Proofs.Qxb6619502a
open Go.RowKit

theorem pick_found (parent : ByteArray) (pr : Int) (name : ByteArray) (L : List Pl) : (pick parent pr (flt name L)).2 = L.any (fun p => eqs p.head name) := by
  have e : L.any (fun p => eqs p.head name) = !(flt name L).isEmpty := by
    unfold flt
    induction L with
    | nil => rfl
    | cons p L ih =>
      rw [List.any_cons, List.filter_cons]
      cases h : eqs p.head name with
      | true => rfl
      | false => simpa using ih
  rw [e]
  generalize flt name L = F
  unfold pick
  cases h1 : F.find? (fun p => eqs p.base parent) with
  | some p =>
    cases F with
    | nil => simp at h1
    | cons q F => rfl
  | none =>
    cases h2 : F.find? (fun p => p.num == pr) with
    | some p =>
      cases F with
      | nil => simp at h2
      | cons q F => rfl
    | none => cases F <;> rfl

theorem pick_mem {parent : ByteArray} {pr : Int} {name : ByteArray} {L : List Pl} {p : Pl} (h : pick parent pr (flt name L) = (p, true)) : ∃ (k : Nat) (hk : k < L.length), L[k]'hk = p ∧ eqs (L[k]'hk).head name = true := by
  have hm : p ∈ flt name L := by
    generalize flt name L = F at *
    unfold pick at h
    cases h1 : F.find? (fun p => eqs p.base parent) with
    | some q =>
      rw [h1] at h
      cases h
      exact List.mem_of_find?_eq_some h1
    | none =>
      rw [h1] at h
      cases h2 : F.find? (fun p => p.num == pr) with
      | some q =>
        rw [h2] at h
        cases h
        exact List.mem_of_find?_eq_some h2
      | none =>
        rw [h2] at h
        cases F with
        | nil => cases h
        | cons q F => cases h; simp
  unfold flt at hm
  obtain ⟨h1, h2⟩ := List.mem_filter.1 hm
  obtain ⟨k, hk, rfl⟩ := List.getElem_of_mem h1
  exact ⟨k, hk, rfl, h2⟩

theorem pick_zero {parent : ByteArray} {pr : Int} {F : List Pl} {p : Pl} (h : pick parent pr F = (p, false)) : p = zeroPl := by
  unfold pick at h
  cases h1 : F.find? (fun p => eqs p.base parent) with
  | some q => rw [h1] at h; cases h
  | none =>
    rw [h1] at h
    cases h2 : F.find? (fun p => p.num == pr) with
    | some q => rw [h2] at h; cases h
    | none =>
      rw [h2] at h
      cases F with
      | nil => cases h; rfl
      | cons q F => cases h

/-- The list with x put in at P, as far as j pulls behind it. -/
def wth (L : List Pl) (P : Nat) (x : Pl) (j : Nat) : List Pl := L.take P ++ [x] ++ (L.drop P).take j

theorem wth_length {L : List Pl} {P : Nat} (x : Pl) {j : Nat} (hP : P ≤ L.length) (hj : P + j ≤ L.length) : (wth L P x j).length = P + 1 + j := by
  unfold wth
  simp
  omega

theorem wth_succ {L : List Pl} {P : Nat} (x : Pl) {j : Nat} (hj : P + j < L.length) : wth L P x (j + 1) = wth L P x j ++ [L[P + j]'hj] := by
  unfold wth
  have hd : j < (L.drop P).length := by simp; omega
  rw [List.take_succ_eq_append_getElem hd, List.getElem_drop]
  simp only [List.append_assoc]

theorem wth_flt {L : List Pl} {P : Nat} {x : Pl} {name : ByteArray} (hx : eqs x.head name = false) : flt name (wth L P x (L.length - P)) = flt name L := by
  unfold wth flt
  rw [List.take_of_length_le (l := L.drop P) (by simp), List.filter_append, List.filter_append, List.filter_cons, hx]
  simp only [Bool.false_eq_true, if_false, List.filter_nil, List.append_nil]
  rw [← List.filter_append, List.take_append_drop]

theorem any_succ {L : List Pl} {j : Nat} (hj : j < L.length) (q : Pl → Bool) : (L.take (j + 1)).any q = ((L.take j).any q || q (L[j]'hj)) := by
  rw [List.take_succ_eq_append_getElem hj, List.any_append]
  simp

/-- A branch's record at block T. -/
def BrAt (w : World) (T : Nat) (parent base pushed : ByteArray) (pr fst : Int) : Prop :=
  w.cell? ⟨T, 0, none⟩ = some (.string parent) ∧ w.cell? ⟨T, 1, none⟩ = some (.string base) ∧ w.cell? ⟨T, 2, none⟩ = some (.int .i64 pr) ∧ w.cell? ⟨T, 3, none⟩ = some (.string pushed) ∧ w.cell? ⟨T, 4, none⟩ = some (.int .i64 fst)

theorem BrAt.below {B : Nat} {w w' : World} {T : Nat} {parent base pushed : ByteArray} {pr fst : Int} (h : BrAt w T parent base pushed pr fst) (hb : Below B w w') (hlt : T < B) : BrAt w' T parent base pushed pr fst := by
  obtain ⟨h0, h1, h2, h3, h4⟩ := h
  exact ⟨(bel_cell hb hlt _).trans h0, (bel_cell hb hlt _).trans h1, (bel_cell hb hlt _).trans h2, (bel_cell hb hlt _).trans h3, (bel_cell hb hlt _).trans h4⟩

theorem PlAt.below {B : Nat} {w w' : World} {b o : Nat} {p : Pl} (h : PlAt w b o p) (hb : Below B w w') (hlt : b < B) : PlAt w' b o p := by
  obtain ⟨h0, h1, h2, h3, h4, h5, h6, h7, h8, h9⟩ := h
  exact ⟨(bel_cell hb hlt _).trans h0, (bel_cell hb hlt _).trans h1, (bel_cell hb hlt _).trans h2, (bel_cell hb hlt _).trans h3, (bel_cell hb hlt _).trans h4, (bel_cell hb hlt _).trans h5, (bel_cell hb hlt _).trans h6, (bel_cell hb hlt _).trans h7, (bel_cell hb hlt _).trans h8, (bel_cell hb hlt _).trans h9⟩

theorem PlAt.lt {w : World} {b o : Nat} {p : Pl} (h : PlAt w b o p) : b < w.heap.size := World.block_lt_of_cell? w _ h.1

theorem PlAt.zero {w : World} {b : Nat} {p : Pl} (h : PlAt w b 0 p) : w.cell? ⟨b, 0, none⟩ = some (.int .i64 p.num) ∧ w.cell? ⟨b, 1, none⟩ = some (.string p.title) ∧ w.cell? ⟨b, 2, none⟩ = some (.string p.state) ∧ w.cell? ⟨b, 3, none⟩ = some (.bool p.merged) ∧
  w.cell? ⟨b, 4, none⟩ = some (.string p.head) ∧ w.cell? ⟨b, 5, none⟩ = some (.string p.hsha) ∧ w.cell? ⟨b, 6, none⟩ = some (.string p.base) ∧ w.cell? ⟨b, 7, none⟩ = some (.string p.msha) ∧
  w.cell? ⟨b, 8, none⟩ = some (.string p.url) ∧ w.cell? ⟨b, 9, none⟩ = some (.int .i64 p.stack) := by
  unfold PlAt at h
  simp only [Nat.zero_add] at h
  exact h

end Go.Proofs.Qxb6619502a
