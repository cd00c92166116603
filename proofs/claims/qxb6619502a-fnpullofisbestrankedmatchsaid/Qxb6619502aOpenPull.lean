/-
  Pulls that came in, opened.
-/
import Derived.Test.Qxb6619502aOpen
import Derived.Test.Qxb6619502aPull
namespace Go.Proofs.Qxb6619502a
open Go.ChangeShapes Go.WideShapes Go.ChangeAt Go.RowKit Go.Deep

/-- The cells of one pull, read. -/
theorem open_pl {H : Type} {enc : TypeId × Value → H} {w : World} {base : Nat} {spare : Nat → Bool} {held : Bool} {fuel : Nat} {cs : List Value} {x : DataW H × List MemPlace}
    (hl : cs.length = 10) (h : DataW.trod enc Try.prog w base spare held fuel 33 cs = some x) : ∃ p : Pl, cs = plCells p ∧ p.ok := by
  obtain ⟨n0, e0, -⟩ := int_field Try.underlying33 h 0 _ rfl rfl
  obtain ⟨s1, e1, z1⟩ := str_field Try.underlying33 h 1 _ rfl rfl
  obtain ⟨s2, e2, z2⟩ := str_field Try.underlying33 h 2 _ rfl rfl
  obtain ⟨b3, e3⟩ := bool_field Try.underlying33 h 3 _ rfl rfl
  obtain ⟨s4, e4, z4⟩ := str_field Try.underlying33 h 4 _ rfl rfl
  obtain ⟨s5, e5, z5⟩ := str_field Try.underlying33 h 5 _ rfl rfl
  obtain ⟨s6, e6, z6⟩ := str_field Try.underlying33 h 6 _ rfl rfl
  obtain ⟨s7, e7, z7⟩ := str_field Try.underlying33 h 7 _ rfl rfl
  obtain ⟨s8, e8, z8⟩ := str_field Try.underlying33 h 8 _ rfl rfl
  obtain ⟨n9, e9, -⟩ := int_field Try.underlying33 h 9 _ rfl rfl
  refine ⟨⟨n0, s1, s2, b3, s4, s5, s6, s7, s8, n9⟩, ?_, z1, z2, z4, z5, z6, z7, z8⟩
  match cs, hl with
  | [c0, c1, c2, c3, c4, c5, c6, c7, c8, c9], _ =>
    simp at e0 e1 e2 e3 e4 e5 e6 e7 e8 e9
    unfold plCells
    rw [e0, e1, e2, e3, e4, e5, e6, e7, e8, e9]

theorem open_pls {H : Type} {enc : TypeId × Value → H} {w : World} {base : Nat} {spare : Nat → Bool} {held : Bool} {fuel : Nat} {a : Option Addr} {len cap : Nat} {x : DataW H × List MemPlace}
    (h : DataW.trod enc Try.prog w base spare held fuel 22 [.slice a len cap] = some x) : ∃ L : List Pl, L.length = len ∧ IsPls w a L ∧ (a = none → L = [] ∧ cap = 0) ∧ L.length ≤ maxLen ∧ ∀ p ∈ L, p.ok := by
  rcases open_rows Try.cells33 (by omega) Try.underlying22 h with ⟨rfl, rfl, rfl⟩ | ⟨ha, hl, hm, hlen | ⟨b, off, rfl, hx⟩⟩
  · exact ⟨[], rfl, .inl rfl, fun _ => ⟨rfl, rfl⟩, by simp, by simp⟩
  · exact ⟨[], by simp [hlen], .inl rfl, fun h => (ha h).elim, by simp, by simp⟩
  · obtain ⟨L, hL, hP⟩ := list_of (α := Pl) (P := fun i p => Row w b (off + i * 10) (plCells p) ∧ p.ok) len (fun i hi => by
      obtain ⟨cs, n, y, hcl, hcell, ht⟩ := hx i hi
      obtain ⟨p, rfl, hok⟩ := open_pl hcl ht
      exact ⟨p, fun j v hv => hcell j v hv, hok⟩)
    refine ⟨L, hL, .inr ⟨b, off, rfl, Row.of_elems (by omega) plCells_length (fun i hi => (hP i hi).1)⟩, fun h => by simp at h, by omega, fun m hm => ?_⟩
    obtain ⟨i, hi, rfl⟩ := List.getElem_of_mem hm
    exact (hP i hi).2

theorem okWide_pull {w : World} {r : Reach} {base : Nat} {v : Value} (h : Value.okWide Try.prog w r base 33 v) : ∃ xs, v = .agg xs ∧ xs.size = 10 := by
  obtain ⟨cs, h1, h2⟩ := okWide_struct Try.underlying33 h
  exact ⟨cs, h1, by rw [h2]; exact Try.cells33⟩

/-- A pull that came in by value. -/
theorem open_pl_val {H : Type} {enc : TypeId × Value → H} {w : World} {base : Nat} {spare : Nat → Bool} {held : Bool} {fuel : Nat} {xs : Array Value} {x : DataW H × List MemPlace}
    (hs : xs.size = 10) (h : DataW.trod enc Try.prog w base spare held fuel 33 xs.toList = some x) : ∃ p : Pl, Value.agg xs = plV p ∧ p.ok := by
  obtain ⟨p, hp, hok⟩ := open_pl (by rw [Array.length_toList]; exact hs) h
  refine ⟨p, ?_, hok⟩
  have : xs = (plCells p).toArray := by rw [← hp]
  rw [this]
  rfl

end Go.Proofs.Qxb6619502a
