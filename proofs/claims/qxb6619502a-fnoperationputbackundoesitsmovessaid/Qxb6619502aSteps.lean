/-
  The loop that applies the updates: plain steps.
-/
import Derived.Test.Qxb6619502aEnv
namespace Go.Proofs.Qxb6619502a
open Go.RowKit

/-- The vals when the branches A are done and B are not. -/
def valsOf (H : ByteArray → ByteArray) (A B : List Ent) : List ByteArray := A.map (·.want) ++ B.map (fun x => H x.name)

theorem valsOf_start (H : ByteArray → ByteArray) (E : List Ent) (names : List ByteArray) (h : E.map (·.name) = names) : valsOf H [] E = names.map H := by
  subst h; unfold valsOf; simp [Function.comp_def]

theorem valsOf_length (H : ByteArray → ByteArray) (A B : List Ent) : (valsOf H A B).length = (A ++ B).length := by unfold valsOf; simp

/-- The next update. -/
theorem step_upd (H : ByteArray → ByteArray) (E A B : List Ent) (U : List Upd) (hE : E = A ++ B) (hc : ∀ e ∈ E, Calm H e) (hU : U = E.flatMap (entU H)) (hk : (A.flatMap (entU H)).length < U.length) :
    ∃ A' e b, E = A' ++ e :: b ∧ U[(A.flatMap (entU H)).length]'hk = ⟨ref e.name, e.want, H e.name⟩ ∧ valsOf H A B = valsOf H A' (e :: b) ∧ ((A' ++ [e]).flatMap (entU H)).length = (A.flatMap (entU H)).length + 1 := by
  subst hE
  rw [List.flatMap_append] at hU
  have hne : B.flatMap (entU H) ≠ [] := by
    intro h
    rw [h] at hU
    rw [hU] at hk
    simp at hk
  obtain ⟨a, e, b, rfl, h1, h2, h3, h4⟩ := next_upd H B (fun x hx => hc x (by simp [hx])) hne
  refine ⟨A ++ a, e, b, by simp, ?_, ?_, ?_⟩
  · subst hU
    rw [List.getElem_append_right (Nat.le_refl _)]
    simp only [List.flatMap_append, h1, List.nil_append, List.flatMap_cons, h4, Nat.sub_self, List.cons_append, List.getElem_cons_zero]
  · unfold valsOf
    simp [h2]
  · rw [List.flatMap_append, List.flatMap_append, h1, List.append_nil, List.length_append, List.flatMap_cons, h4]
    rfl

theorem last_upd (H : ByteArray → ByteArray) (E A B : List Ent) (U : List Upd) (hE : E = A ++ B) (hc : ∀ e ∈ E, Calm H e) (hU : U = E.flatMap (entU H)) (hk : ¬ (A.flatMap (entU H)).length < U.length) : valsOf H A B = E.map (·.want) := by
  subst hE
  have hB : B.flatMap (entU H) = [] := by
    rw [List.flatMap_append] at hU
    rw [hU, List.length_append] at hk
    exact List.eq_nil_of_length_eq_zero (by omega)
  unfold valsOf
  rw [← no_upd H B (fun x hx => hc x (by simp [hx])) hB, List.map_append]

theorem le_upd (H : ByteArray → ByteArray) (E A B : List Ent) (U : List Upd) (hE : E = A ++ B) (hU : U = E.flatMap (entU H)) : (A.flatMap (entU H)).length ≤ U.length := by
  subst hE; subst hU
  rw [List.flatMap_append, List.length_append]
  omega

/-- The branch whose update comes next. -/
theorem at_upd (H : ByteArray → ByteArray) (A b : List Ent) (e : Ent) : ∃ h : A.length < (valsOf H A (e :: b)).length, (valsOf H A (e :: b))[A.length]'h = H e.name ∧ valsOf H (A ++ [e]) b = (valsOf H A (e :: b)).set A.length e.want := by
  unfold valsOf
  refine ⟨by simp, ?_, ?_⟩
  · rw [List.getElem_append_right (by simp)]
    simp
  · rw [List.map_append, List.set_append_right _ _ (by simp)]
    simp

/-- Its place among the names. -/
theorem place_upd {names : List ByteArray} {E A b : List Ent} {e : Ent} (hn : E.map (·.name) = names) (hE : E = A ++ e :: b) (hd : names.Pairwise (· ≠ ·)) :
    ∃ h : A.length < names.length, names[A.length]'h = e.name ∧ ∀ j (hj : j < names.length), j < A.length → names[j]'hj ≠ e.name := by
  subst hE
  subst hn
  refine ⟨by simp, by simp, fun j hj hlt => ?_⟩
  rw [List.pairwise_iff_getElem] at hd
  have := hd j A.length hj (by simp) hlt
  simpa using this

theorem ref_ne {a b : ByteArray} (h : a ≠ b) : ((ref a).toList == (ref b).toList) = false := by
  rw [beq_eq_false_iff_ne]
  intro e
  exact h (ref_inj (toList_inj e))

section
variable (H RH : ByteArray → ByteArray) (tf trunk : ByteArray) (M : List Mv) (R : List ByteArray)

theorem want_mv (i : Nat) (hi : i < M.length) : ((ents H RH tf trunk M R).map (·.want))[i]? = some (mvEnt H RH (M[i]'hi)).want := by
  unfold ents
  rw [List.append_assoc, List.map_append, List.getElem?_append_left (by simpa using hi)]
  simp [hi]

theorem want_tr : ((ents H RH tf trunk M R).map (·.want))[M.length]? = some (trEnt H RH tf trunk).want := by
  unfold ents
  rw [List.append_assoc, List.map_append, List.getElem?_append_right (by simp)]
  simp

theorem want_rm (i : Nat) (hi : i < R.length) : ((ents H RH tf trunk M R).map (·.want))[M.length + 1 + i]? = some (rmEnt H RH (R[i]'hi)).want := by
  unfold ents
  rw [List.map_append, List.getElem?_append_right (by simp)]
  simp [hi]
end

/-- One of the vals. -/
theorem Vals.at {wv w : World} {VB n : Nat} {vals : List ByteArray} (h : Vals wv w VB n vals) (i : Nat) (s : ByteArray) (hi : vals[i]? = some s) : w.cell? ⟨VB, i, none⟩ = some (.string s) := by
  obtain ⟨hlt, rfl⟩ := List.getElem?_eq_some_iff.1 hi
  have := h.1 i hlt
  rwa [Nat.zero_add] at this

end Go.Proofs.Qxb6619502a
