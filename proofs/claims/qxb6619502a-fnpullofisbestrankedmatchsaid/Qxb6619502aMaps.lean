/-
  Maps from strings to strings: what a look-up gives, what a store of a new key leaves.
-/
import Derived.Test.Qxb6619502aRows
import Derived.WalkKit
namespace Go.Proofs.Qxb6619502a
open Go.RowKit

theorem ret_bool {a b : Bool} (h : a = b) : Ending.returned (.bool a) = .returned (.bool b) := by rw [h]

/-- Block r of w is a map of just these entries, in this order. -/
def MapAt (w : World) (r : Nat) (L : List (ByteArray × ByteArray)) : Prop :=
  ∃ es clock, w.heap[r]? = some (.map es clock) ∧ es.toList.map (fun e => (e.key, e.val)) = L.map (fun p => (Value.string p.1, Value.string p.2))

/-- What a map of these entries holds at k. -/
def get : List (ByteArray × ByteArray) → ByteArray → ByteArray
  | [], _ => ⟨#[]⟩
  | p :: L, k => if k == p.1 then p.2 else get L k

theorem findNow_get (k : ByteArray) : ∀ (es : List MapEntry) (L : List (ByteArray × ByteArray)) (i : Nat), es.map (fun e => (e.key, e.val)) = L.map (fun p => (Value.string p.1, Value.string p.2)) →
    ∃ r, Instr.findNow .string (.string k) es i = some r ∧ ((r = none ∧ get L k = ⟨#[]⟩ ∧ ∀ p ∈ L, (k == p.1) = false) ∨ ∃ j, r = some (j, .string (get L k)) ∧ ∃ p ∈ L, (k == p.1) = true) := by
  intro es
  induction es with
  | nil =>
    intro L i h
    cases L with
    | nil => exact ⟨none, rfl, .inl ⟨rfl, rfl, by simp⟩⟩
    | cons p L => simp at h
  | cons e es ih =>
    intro L i h
    cases L with
    | nil => simp at h
    | cons p L =>
      simp only [List.map_cons, List.cons.injEq, Prod.mk.injEq] at h
      obtain ⟨⟨h1, h2⟩, h3⟩ := h
      unfold Instr.findNow get
      rw [h1, h2]
      simp only [Instr.sameNow]
      cases hk : k == p.1 with
      | true => exact ⟨_, rfl, .inr ⟨i, by simp, p, by simp, hk⟩⟩
      | false =>
        obtain ⟨r, hr, hc⟩ := ih L (i + 1) h3
        refine ⟨r, hr, ?_⟩
        rcases hc with ⟨c1, c2, c3⟩ | ⟨j, c1, p', hp', hk'⟩
        · exact .inl ⟨c1, by simpa using c2, by
            intro q hq
            rcases List.mem_cons.1 hq with rfl | hq
            · exact hk
            · exact c3 q hq⟩
        · exact .inr ⟨j, by simpa using c1, p', List.mem_cons_of_mem _ hp', hk'⟩

theorem zero9 (w : World) : (zeroValue 9).run Try.prog w = .ok (.string ⟨#[]⟩) w := by kernel_rfl

theorem check_key (e : Bool) (n : Nat) (k : ByteArray) (w : World) : (Instr.checkKey e (n + 1) 9 (.string k)).run Try.prog w = .ok () w := by
  simp [Instr.checkKey, run_underlying Try.underlying9]

theorem MapAt.find {es : Array MapEntry} {L : List (ByteArray × ByteArray)} (he : es.toList.map (fun e => (e.key, e.val)) = L.map (fun p => (Value.string p.1, Value.string p.2))) (k : ByteArray) (w : World) :
    ∃ r, (Instr.findKey 9 (.string k) es.toList).run Try.prog w = .ok r w ∧ ((r = none ∧ get L k = ⟨#[]⟩ ∧ ∀ p ∈ L, (k == p.1) = false) ∨ ∃ j, r = some (j, .string (get L k)) ∧ ∃ p ∈ L, (k == p.1) = true) := by
  obtain ⟨q, hq, hc⟩ := findNow_get k es.toList L 0 he
  exact ⟨q, by simp [Instr.findKey, run_underlying Try.underlying9, hq], hc⟩

theorem check_key' (k : ByteArray) (w : World) (e : Bool) : (Instr.checkKey e 10000 9 (.string k)).run Try.prog w = .ok () w := check_key e 9999 k w

theorem MapAt.look {w : World} {r : Nat} {L : List (ByteArray × ByteArray)} (h : MapAt w r L) (k : ByteArray) :
    (Instr.lookup 38 (.map (some r)) (.string k) false).run Try.prog w = .ok (.string (get L k)) w := by
  obtain ⟨es, clock, hb, he⟩ := h
  obtain ⟨q, hq, hc⟩ := MapAt.find he k w
  rcases hc with ⟨rfl, h2, _⟩ | ⟨j, rfl, _⟩
  · simp [Instr.lookup, run_underlying Try.underlying38, MapKept.run_getObj_map hb, check_key', hq, h2, Result.andThen]
  · simp [Instr.lookup, run_underlying Try.underlying38, MapKept.run_getObj_map hb, check_key', hq, Result.andThen]

/-- A nil map holds nothing. -/
theorem look_none (w : World) (k : ByteArray) : (Instr.lookup 38 (.map none) (.string k) false).run Try.prog w = .ok (.string ⟨#[]⟩) w := by
  have hq : (Instr.findKey 9 (.string k) []).run Try.prog w = .ok none w := by simp [Instr.findKey, run_underlying Try.underlying9, Instr.findNow]
  simp [Instr.lookup, run_underlying Try.underlying38, check_key', hq, Result.andThen]

/-- A store of a key that is not there. -/
theorem MapAt.store {w : World} {r : Nat} {L : List (ByteArray × ByteArray)} (h : MapAt w r L) (k v : ByteArray) (hk : ∀ p ∈ L, (k == p.1) = false) :
    ∃ w', (Instr.mapUpdate 38 (.map (some r)) (.string k) (.string v)).run Try.prog w = .ok () w' ∧ MapAt w' r (L ++ [(k, v)]) ∧ w.grownBy w' (some r) := by
  obtain ⟨es, clock, hb, he⟩ := h
  obtain ⟨q, hq, hc⟩ := MapAt.find he k w
  have hnone : q = none := by
    rcases hc with ⟨rfl, _⟩ | ⟨j, rfl, p, hp, hkp⟩
    · rfl
    · rw [hk p hp] at hkp
      cases hkp
  subst hnone
  refine ⟨ChangeMaps.setBlock w r (.map (es.push { key := .string k, val := .string v, born := clock }) (clock + 1)), ?_, ?_, ?_⟩
  · simp [Instr.mapUpdate, run_underlying Try.underlying38, MapKept.run_getObj_map hb, check_key', hq, MapKept.run_setObj_map _ hb, Result.andThen, ChangeMaps.setBlock]
  · refine ⟨_, _, ChangeMaps.heap_setBlock_same hb _, ?_⟩
    simp [he]
  · refine ⟨rfl, rfl, rfl, by simp [ChangeMaps.setBlock], fun j hj hne => ?_⟩
    simp only [ChangeMaps.setBlock]
    rw [Array.getElem?_setIfInBounds_ne]
    intro e
    exact hne (by rw [e])

theorem run_len_map {w : World} {r : Nat} {L : List (ByteArray × ByteArray)} (h : MapAt w r L) (ty : TypeId) : (Builtin.len_ #[38] ty #[.map (some r)]).run Try.prog w = .ok (goInt L.length) w := by
  obtain ⟨es, clock, hb, he⟩ := h
  have : es.size = L.length := by have := congrArg List.length he; simpa using this
  simp [Builtin.len_, run_underlying Try.underlying38, MapKept.run_getObj_map hb, this, Result.andThen]

theorem run_len_nilmap (w : World) (ty : TypeId) : (Builtin.len_ #[38] ty #[.map none]).run Try.prog w = .ok (goInt 0) w := by
  simp [Builtin.len_, run_underlying Try.underlying38]

/-- A map value, nil or not. -/
def IsMap (w : World) (m : Option Nat) (L : List (ByteArray × ByteArray)) : Prop := (m = none ∧ L = []) ∨ ∃ r, m = some r ∧ MapAt w r L

theorem IsMap.look {w : World} {m : Option Nat} {L : List (ByteArray × ByteArray)} (h : IsMap w m L) (k : ByteArray) :
    (Instr.lookup 38 (.map m) (.string k) false).run Try.prog w = .ok (.string (get L k)) w := by
  rcases h with ⟨rfl, rfl⟩ | ⟨r, rfl, h⟩
  · exact look_none w k
  · exact h.look k

theorem IsMap.len {w : World} {m : Option Nat} {L : List (ByteArray × ByteArray)} (h : IsMap w m L) (ty : TypeId) : (Builtin.len_ #[38] ty #[.map m]).run Try.prog w = .ok (goInt L.length) w := by
  rcases h with ⟨rfl, rfl⟩ | ⟨r, rfl, h⟩
  · exact run_len_nilmap w ty
  · exact run_len_map h ty

theorem IsMap.below {B : Nat} {w w' : World} {m : Option Nat} {L : List (ByteArray × ByteArray)} (h : IsMap w m L) (hb : Below B w w') (hlt : ∀ r, m = some r → r < B) : IsMap w' m L := by
  rcases h with h | ⟨r, rfl, es, clock, h1, h2⟩
  · exact .inl h
  · exact .inr ⟨r, rfl, es, clock, (hb.block r (hlt r rfl)).trans h1, h2⟩

theorem IsMap.lt {w : World} {m : Option Nat} {L : List (ByteArray × ByteArray)} (h : IsMap w m L) : ∀ r, m = some r → r < w.heap.size := by
  intro r hr
  rcases h with ⟨rfl, _⟩ | ⟨r', rfl, es, clock, h1, _⟩
  · cases hr
  · cases hr
    exact (Array.getElem?_eq_some_iff.1 h1).1

end Go.Proofs.Qxb6619502a
