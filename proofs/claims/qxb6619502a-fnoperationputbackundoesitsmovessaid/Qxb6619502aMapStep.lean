/-
  The map of the heads that the updates leave: made, filled, name by name.
-/
import Derived.Test.Qxb6619502aSteps
namespace Go.Proofs.Qxb6619502a
open Go.RowKit

theorem run_makeMap_hint (w : World) (n : Int) : (Instr.makeMap 38 (some (.int .i64 n))).run Try.prog w = .ok (.map (some w.heap.size)) (w.alloc (.map #[] 0)) := by
  simp [Instr.makeMap, run_underlying Try.underlying38, asInt, asIntOf, Result.andThen]

/-- What the map bears for these branches. -/
def pairOf (x : Ent) : ByteArray × ByteArray := (x.name, x.want)

/-- The map that is being filled, at AB, in a call that leaves all below it. -/
def Filled (wd : World) (AB : Nat) (E : List Ent) (wr : World) : Prop := MapAt wr AB (E.map pairOf) ∧ Below AB wd wr

theorem Filled.start (w : World) : Filled w w.heap.size [] (w.alloc (.map #[] 0)) := ⟨⟨#[], 0, (MapKept.heap_alloc w _).1, rfl⟩, below_alloc w _⟩

theorem Filled.step {wd wr : World} {AB : Nat} {E : List Ent} {names : List ByteArray} (hn : E.map (·.name) = names) (hd : names.Pairwise (· ≠ ·)) {j : Nat} (hj : j < E.length) (hAB : wd.heap.size = AB) (hA : Filled wd AB (E.take j) wr) :
    ∃ WW : Nat → World, (∀ n, (Instr.mapUpdate 38 (.map (some AB)) (.string (E[j]'hj).name) (.string (E[j]'hj).want)).run Try.prog (wr.drewN n) = .ok () (WW n)) ∧ ∀ n, Filled wd AB (E.take (j + 1)) (WW n) := by
  have key : ∀ n, ∃ W, (Instr.mapUpdate 38 (.map (some AB)) (.string (E[j]'hj).name) (.string (E[j]'hj).want)).run Try.prog (wr.drewN n) = .ok () W ∧ Filled wd AB (E.take (j + 1)) W := by
    intro n
    obtain ⟨W, k1, k2, k3⟩ := MapAt.store (w := wr.drewN n) (r := AB) (L := (E.take j).map pairOf) hA.1 (E[j]'hj).name (E[j]'hj).want (by
      intro p hp
      obtain ⟨x, hx, rfl⟩ := List.mem_map.1 hp
      obtain ⟨i, hi, rfl⟩ := List.getElem_of_mem hx
      rw [List.length_take] at hi
      rw [List.getElem_take]
      subst hn
      rw [List.pairwise_iff_getElem] at hd
      have := hd i j (by rw [List.length_map]; omega) (by rw [List.length_map]; omega) (by omega)
      rw [List.getElem_map, List.getElem_map] at this
      exact bytes_bne _ _ (fun h => this h.symm))
    refine ⟨W, k1, ?_, ?_⟩
    · rw [List.take_succ_eq_append_getElem hj, List.map_append]
      exact k2
    · exact (drewN_below hA.2 n).grown k3 (by have := hA.2.size; show AB ≤ wr.heap.size; omega) (by intro k hk; cases hk; exact Nat.le_refl _)
  exact ⟨fun n => (key n).choose, fun n => (key n).choose_spec.1, fun n => (key n).choose_spec.2⟩

end Go.Proofs.Qxb6619502a
