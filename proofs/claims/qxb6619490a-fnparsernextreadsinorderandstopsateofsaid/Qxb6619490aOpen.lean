/-
  A slice of tokens that came in, opened.
-/
import Derived.Test.Qxb6619490aBytes
import Derived.ProofKit
import Derived.OpenShut
import Derived.Deep.Strs
namespace Go.Proofs.Qxb6619490a
open Go.ChangeShapes Go.WideShapes Go.ChangeAt Go.RowKit Go.Deep

theorem list_of {α : Type} {P : Nat → α → Prop} : ∀ (n : Nat), (∀ i, i < n → ∃ t, P i t) → ∃ T : List α, T.length = n ∧ ∀ i (h : i < T.length), P i (T[i]'h)
  | 0, _ => ⟨[], rfl, fun i h => by simp at h⟩
  | n + 1, h => by
    obtain ⟨T, hT, hP⟩ := list_of n (fun i hi => h i (by omega))
    obtain ⟨t, ht⟩ := h n (by omega)
    refine ⟨T ++ [t], by simp [hT], fun i hi => ?_⟩
    by_cases hlt : i < T.length
    · rw [List.getElem_append_left hlt]
      exact hP i hlt
    · have : i = T.length := by simp at hi; omega
      subst this
      simp
      rw [hT]
      exact ht

theorem Try.cells25 : Try.prog.cellsOf 25 = 3 := by kernel_rfl
theorem Try.cells5 : Try.prog.cellsOf 5 = 1 := by kernel_rfl
theorem Try.cells9 : Try.prog.cellsOf 9 = 1 := by kernel_rfl
theorem Try.cells3 : Try.prog.cellsOf 3 = 1 := by kernel_rfl

theorem one_of {l : List Value} {i : Nat} {v : Value} (h : (l.drop i).take 1 = [v]) : l[i]? = some v := by
  have : ((l.drop i).take 1)[0]? = some v := by rw [h]; rfl
  rw [List.getElem?_take] at this
  simpa using this

theorem open_toks {H : Type} {enc : TypeId × Value → H} {w : World} {base : Nat} {spare : Nat → Bool} {held : Bool} {fuel : Nat} {a : Option Addr} {len cap : Nat} {x : DataW H × List MemPlace}
    (h : DataW.trod enc Try.prog w base spare held fuel 22 [.slice a len cap] = some x) :
    (a = none ∧ len = 0 ∧ cap = 0) ∨ ∃ (b off : Nat) (T : List Tok), (len = 0 ∨ a = some ⟨b, off, none⟩) ∧ (a = none → False) ∧ T.length = len ∧ len ≤ maxLen ∧ Toks w b off T := by
  rcases open_slice Try.underlying22 h with ⟨hcs, _⟩ | ⟨x, l, c, m, n, D, Pl, hcs, hb, hl, hm, hmm, _, hx⟩
  · simp at hcs
    exact .inl hcs
  · simp at hcs
    obtain ⟨rfl, rfl, rfl⟩ := hcs
    right
    have hlm : len ≤ m := by rw [hmm]; split <;> omega
    by_cases h0 : len = 0
    · exact ⟨0, 0, [], .inl h0, fun h => by simp at h, by simp [h0], by omega, fun j h => by simp at h⟩
    obtain ⟨b, off, spot⟩ := x
    have hspot : spot = none := by
      obtain ⟨cs', hc, _⟩ := hx 0 (by omega)
      obtain ⟨_, hlen, hcell⟩ := World.cells?_some hc
      rw [Try.cells25] at hlen hcell
      have h00 := hcell 0 (by omega)
      rw [List.getElem?_eq_getElem (by omega)] at h00
      simpa [Addr.add] using World.cell?_spot h00
    subst hspot
    obtain ⟨T, hT, hP⟩ := list_of (α := Tok) (P := fun i t => w.cell? ⟨b, off + i * 3, none⟩ = some (.int .u8 t.k) ∧ w.cell? ⟨b, off + i * 3 + 1, none⟩ = some (.string t.s) ∧ w.cell? ⟨b, off + i * 3 + 2, none⟩ = some (.int .i64 t.o)) len (fun i hi => by
      obtain ⟨cs', hc, ht⟩ := hx i (by omega)
      obtain ⟨_, hlen, hcell⟩ := World.cells?_some hc
      obtain ⟨y0, y1, y2, k, _, _, t0, t1, t2⟩ := trod_struct3 Try.underlying25 ht
      simp only [Try.cells25, Try.cells5, Try.cells9, Try.cells3] at hlen hcell t0 t1 t2
      obtain ⟨kk, e0, _, _⟩ := DataW.trod_int Try.underlying5 t0
      obtain ⟨ss, e1, _, _⟩ := DataW.trod_string Try.underlying9 t1
      obtain ⟨oo, e2, _, _⟩ := DataW.trod_int Try.underlying3 t2
      have g0 := (hcell 0 (by omega)).trans (one_of e0)
      have g1 := (hcell 1 (by omega)).trans (one_of e1)
      have g2 := (hcell 2 (by omega)).trans (one_of e2)
      rw [add_plain, add_plain] at g0 g1 g2
      exact ⟨⟨kk, ss, oo⟩, g0, g1, g2⟩)
    exact ⟨b, off, T, .inr rfl, fun h => by simp at h, hT, by omega, fun j h => hP j h⟩

end Go.Proofs.Qxb6619490a
