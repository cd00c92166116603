/-
  The best-ranked match: plain.
-/
import Derived.Test.Qxb6619502aPullOf
import Derived.Test.Qxb6619502aPlainPut
namespace Go.Proofs.Qxb6619502a
open Go.RowKit

def rankOf (parent : ByteArray) (pr : Int) (p : Pl) : Int := if eqs p.base parent then 0 else if p.num == pr then 1 else 2

theorem rankOf_le (parent : ByteArray) (pr : Int) (p : Pl) : rankOf parent pr p ≤ 2 ∧ 0 ≤ rankOf parent pr p := by
  unfold rankOf
  split
  · omega
  · split <;> omega

/-- The best of the first j pulls so far: none, or number b of rank r, the earliest of the least rank. -/
def Best (name parent : ByteArray) (pr : Int) (L : List Pl) (j : Nat) (b r : Int) : Prop :=
  (b = -1 ∧ r = 3 ∧ ∀ k (hk : k < L.length), k < j → eqs (L[k]'hk).head name = false) ∨
  ∃ (k : Nat) (hk : k < L.length), b = k ∧ k < j ∧ eqs (L[k]'hk).head name = true ∧ r = rankOf parent pr (L[k]'hk) ∧
    (∀ i (hi : i < L.length), i < k → eqs (L[i]'hi).head name = true → r < rankOf parent pr (L[i]'hi)) ∧
    (∀ i (hi : i < L.length), i < j → eqs (L[i]'hi).head name = true → r ≤ rankOf parent pr (L[i]'hi))

section
variable {name parent : ByteArray} {pr : Int} {L : List Pl} {j : Nat} {b r : Int}

theorem Best.start : Best name parent pr L 0 (-1) 3 := .inl ⟨rfl, rfl, fun k hk h => by omega⟩

theorem Best.range (h : Best name parent pr L j b r) : -1 ≤ b ∧ b ≤ L.length ∧ 0 ≤ r ∧ r ≤ 3 := by
  rcases h with ⟨rfl, rfl, _⟩ | ⟨k, hk, rfl, _, _, rfl, _⟩
  · omega
  · have := rankOf_le parent pr (L[k]'hk)
    omega

theorem Best.skip (h : Best name parent pr L j b r) (hj : j < L.length) (hh : eqs (L[j]'hj).head name = false) : Best name parent pr L (j + 1) b r := by
  rcases h with ⟨h1, h2, h3⟩ | ⟨k, hk, h1, h2, h3, h4, h5, h6⟩
  · refine .inl ⟨h1, h2, fun k hk hlt => ?_⟩
    by_cases e : k = j
    · subst e; exact hh
    · exact h3 k hk (by omega)
  · refine .inr ⟨k, hk, h1, by omega, h3, h4, h5, fun i hi hlt hm => ?_⟩
    by_cases e : i = j
    · subst e; rw [hh] at hm; cases hm
    · exact h6 i hi (by omega) hm

theorem Best.keep (h : Best name parent pr L j b r) (hj : j < L.length) (hh : eqs (L[j]'hj).head name = true) (hr : r ≤ rankOf parent pr (L[j]'hj)) : Best name parent pr L (j + 1) b r := by
  rcases h with ⟨h1, h2, h3⟩ | ⟨k, hk, h1, h2, h3, h4, h5, h6⟩
  · have := rankOf_le parent pr (L[j]'hj)
    omega
  · refine .inr ⟨k, hk, h1, by omega, h3, h4, h5, fun i hi hlt hm => ?_⟩
    by_cases e : i = j
    · subst e; exact hr
    · exact h6 i hi (by omega) hm

theorem Best.take (h : Best name parent pr L j b r) (hj : j < L.length) (hh : eqs (L[j]'hj).head name = true) (hr : rankOf parent pr (L[j]'hj) < r) : Best name parent pr L (j + 1) j (rankOf parent pr (L[j]'hj)) := by
  have key : ∀ i (hi : i < L.length), i < j → eqs (L[i]'hi).head name = true → rankOf parent pr (L[j]'hj) < rankOf parent pr (L[i]'hi) := by
    intro i hi hlt hm
    rcases h with ⟨h1, h2, h3⟩ | ⟨k, hk, h1, h2, h3, h4, h5, h6⟩
    · rw [h3 i hi hlt] at hm; cases hm
    · have := h6 i hi hlt hm
      omega
  refine .inr ⟨j, hj, rfl, by omega, hh, rfl, key, fun i hi hlt hm => ?_⟩
  by_cases e : i = j
  · subst e; exact Int.le_refl _
  · have := key i hi (by omega) hm
    omega

theorem Best.nothing (h : Best name parent pr L L.length b r) (hb : b < 0) : pick parent pr (flt name L) = (zeroPl, false) := by
  rcases h with ⟨h1, h2, h3⟩ | ⟨k, hk, h1, h2, h3, h4, h5, h6⟩
  · have : flt name L = [] := by
      unfold flt
      rw [List.filter_eq_nil_iff]
      intro x hx
      obtain ⟨k, hk, rfl⟩ := List.getElem_of_mem hx
      rw [h3 k hk hk]
      decide
    rw [this]
    rfl
  · omega

theorem rank_base {p : Pl} (h : 0 < rankOf parent pr p) : eqs p.base parent = false := by
  unfold rankOf at h
  split at h
  · omega
  · simp_all
theorem rank_num {p : Pl} (h : 1 < rankOf parent pr p) : (p.num == pr) = false := by
  unfold rankOf at h
  split at h
  · omega
  · split at h
    · omega
    · simp_all

theorem Best.found (h : Best name parent pr L L.length b r) (hb : 0 ≤ b) : ∃ (k : Nat) (hk : k < L.length), b = k ∧ pick parent pr (flt name L) = (L[k]'hk, true) := by
  rcases h with ⟨h1, h2, h3⟩ | ⟨k, hk, h1, h2, h3, h4, h5, h6⟩
  · omega
  refine ⟨k, hk, h1, ?_⟩
  have hf : ∀ q : Pl → Bool, (flt name L).find? q = L.find? (fun p => eqs p.head name && q p) := fun q => by
    unfold flt
    rw [List.find?_filter]
    congr 1
    funext x
    cases eqs x.head name <;> cases q x <;> rfl
  have hlow : ∀ i (hi : i < L.length), eqs (L[i]'hi).head name = true → r ≤ rankOf parent pr (L[i]'hi) := fun i hi hm => h6 i hi hi hm
  by_cases e0 : eqs (L[k]'hk).base parent = true
  · refine pick_base ?_
    rw [hf]
    refine first_find hk (fun i hi hlt => ?_) (by rw [h3, e0]; rfl)
    cases hm : eqs (L[i]'hi).head name with
    | false => rfl
    | true =>
      have := h5 i hi hlt hm
      have hr0 : r = 0 := by rw [h4]; unfold rankOf; rw [e0]; rfl
      rw [rank_base (pr := pr) (p := L[i]'hi) (parent := parent) (by omega)]
      rfl
  · have e0' : eqs (L[k]'hk).base parent = false := by simpa using e0
    have hr1 : 1 ≤ r := by
      rw [h4]
      unfold rankOf
      rw [e0']
      simp only [Bool.false_eq_true, if_false]
      split <;> omega
    have hnb : (flt name L).find? (fun p => eqs p.base parent) = none := by
      rw [hf]
      refine none_find (fun i hi => ?_)
      cases hm : eqs (L[i]'hi).head name with
      | false => rfl
      | true =>
        have := hlow i hi hm
        rw [rank_base (pr := pr) (p := L[i]'hi) (parent := parent) (by omega)]
        rfl
    by_cases e1 : ((L[k]'hk).num == pr) = true
    · refine pick_num hnb ?_
      rw [hf]
      refine first_find hk (fun i hi hlt => ?_) (by rw [h3, e1]; rfl)
      cases hm : eqs (L[i]'hi).head name with
      | false => rfl
      | true =>
        have := h5 i hi hlt hm
        rw [rank_num (pr := pr) (p := L[i]'hi) (parent := parent) (by omega)]
        rfl
    · have e1' : ((L[k]'hk).num == pr) = false := by simpa using e1
      have hr2 : 2 ≤ r := by
        rw [h4]
        unfold rankOf
        rw [e0', e1']
        simp
      have hnn : (flt name L).find? (fun p => p.num == pr) = none := by
        rw [hf]
        refine none_find (fun i hi => ?_)
        cases hm : eqs (L[i]'hi).head name with
        | false => rfl
        | true =>
          have := hlow i hi hm
          rw [rank_num (pr := pr) (p := L[i]'hi) (parent := parent) (by omega)]
          rfl
      have hh : (flt name L).head? = some (L[k]'hk) := by
        unfold flt
        rw [List.head?_filter]
        refine first_find hk (fun i hi hlt => ?_) h3
        cases hm : eqs (L[i]'hi).head name with
        | false => rfl
        | true =>
          have := h5 i hi hlt hm
          have := rankOf_le parent pr (L[i]'hi)
          omega
      cases hF : flt name L with
      | nil => rw [hF] at hh; simp at hh
      | cons p F =>
        rw [hF] at hh hnb hnn
        simp at hh
        subst hh
        rw [pick_head hnb hnn (by simp)]
        rfl
end

end Go.Proofs.Qxb6619502a
