/-
  What came in, opened: rows of structs, rows of strings, maps of strings.
-/
import Derived.Test.Qxb6619502aNames
import Derived.ProofKit
import Derived.OpenShut
import Derived.Deep.Strs
import Derived.Maps.StringElems
namespace Go.Proofs.Qxb6619502a
open Go.ChangeShapes Go.WideShapes Go.ChangeAt Go.RowKit Go.Deep

theorem list_of {α : Type} {P : Nat → α → Prop} : ∀ (n : Nat), (∀ i, i < n → ∃ t, P i t) → ∃ T : List α, T.length = n ∧ ∀ i (h : i < T.length), P i (T[i]'h)
  | 0, _ => ⟨[], rfl, fun i h => by simp at h⟩
  | n + 1, h => by
    obtain ⟨T, hT, hP⟩ := list_of n (fun i hi => h i (by omega))
    obtain ⟨t, ht⟩ := h n (by omega)
    refine ⟨T ++ [t], by simp [hT], fun i hi => ?_⟩
    by_cases hlt : i < T.length
    · rw [List.getElem_append_left hlt]
      exact hP i hlt
    · have : i = T.length := by simp at hi; omega
      subst this
      simp
      rw [hT]
      exact ht

theorem one_of {l : List Value} {i : Nat} {v : Value} (h : (l.drop i).take 1 = [v]) : l[i]? = some v := by
  have : ((l.drop i).take 1)[0]? = some v := by rw [h]; rfl
  rw [List.getElem?_take] at this
  simpa using this

theorem Try.cells51 : Try.prog.cellsOf 51 = 5 := by kernel_rfl
theorem Try.cells33 : Try.prog.cellsOf 33 = 10 := by kernel_rfl
theorem Try.cells9 : Try.prog.cellsOf 9 = 1 := by kernel_rfl
theorem Try.cells3 : Try.prog.cellsOf 3 = 1 := by kernel_rfl
theorem Try.cells4 : Try.prog.cellsOf 4 = 1 := by kernel_rfl

section
variable {H : Type} {enc : TypeId × Value → H} {w : World} {base : Nat} {spare : Nat → Bool} {held : Bool} {t : TypeId} {fs : Array Field} {fuel : Nat} {cs : List Value} {x : DataW H × List MemPlace}

theorem field_of (ht : Try.prog.underlying t = some (.struct fs)) (h : DataW.trod enc Try.prog w base spare held fuel t cs = some x) (i : Nat) (f : Field) (hf : fs[i]? = some f) :
    ∃ n y, DataW.trod enc Try.prog w base spare held n f.type ((cs.drop f.offset).take (Try.prog.cellsOf f.type)) = some y := by
  obtain ⟨xs, n, _, _, _, hlen, hh⟩ := DataW.trod_struct ht h
  have h1 := hh i f hf
  have hi : i < fs.size := (Array.getElem?_eq_some_iff.1 hf).1
  rw [List.getElem?_eq_getElem (by omega)] at h1
  exact ⟨n, _, h1⟩

theorem str_field (ht : Try.prog.underlying t = some (.struct fs)) (h : DataW.trod enc Try.prog w base spare held fuel t cs = some x) (i : Nat) (f : Field) (hf : fs[i]? = some f) (h9 : f.type = 9) :
    ∃ s : ByteArray, cs[f.offset]? = some (.string s) ∧ s.size ≤ maxLen := by
  obtain ⟨n, y, h1⟩ := field_of ht h i f hf
  rw [h9, Try.cells9] at h1
  obtain ⟨s, e, _, hs⟩ := DataW.trod_string Try.underlying9 h1
  exact ⟨s, one_of e, hs⟩

theorem int_field (ht : Try.prog.underlying t = some (.struct fs)) (h : DataW.trod enc Try.prog w base spare held fuel t cs = some x) (i : Nat) (f : Field) (hf : fs[i]? = some f) (h3 : f.type = 3) :
    ∃ n : Int, cs[f.offset]? = some (.int .i64 n) ∧ (Lit.int .i64 n).wf = true := by
  obtain ⟨n, y, h1⟩ := field_of ht h i f hf
  rw [h3, Try.cells3] at h1
  obtain ⟨s, e, _, hs⟩ := DataW.trod_int Try.underlying3 h1
  exact ⟨s, one_of e, hs⟩

theorem bool_field (ht : Try.prog.underlying t = some (.struct fs)) (h : DataW.trod enc Try.prog w base spare held fuel t cs = some x) (i : Nat) (f : Field) (hf : fs[i]? = some f) (h4 : f.type = 4) :
    ∃ b : Bool, cs[f.offset]? = some (.bool b) := by
  obtain ⟨n, y, h1⟩ := field_of ht h i f hf
  rw [h4, Try.cells4] at h1
  obtain ⟨s, e, _⟩ := DataW.trod_bool Try.underlying4 h1
  exact ⟨s, one_of e⟩

/-- A slice of elements of c cells: the cells of each, and what each reads as. -/
theorem open_rows {e : TypeId} {c : Nat} {a : Option Addr} {len cap : Nat} (hc : Try.prog.cellsOf e = c) (hc0 : 0 < c) (ht : Try.prog.underlying t = some (.slice e)) (h : DataW.trod enc Try.prog w base spare held fuel t [.slice a len cap] = some x) :
    (a = none ∧ len = 0 ∧ cap = 0) ∨ ((a = none → False) ∧ len ≤ cap ∧ cap ≤ maxLen ∧ (len = 0 ∨ ∃ b off, a = some ⟨b, off, none⟩ ∧ ∀ i, i < len → ∃ (cs : List Value) (n : Nat) (y : DataW H × List MemPlace), cs.length = c ∧
      (∀ j v, cs[j]? = some v → w.cell? ⟨b, off + i * c + j, none⟩ = some v) ∧ DataW.trod enc Try.prog w base spare held n e cs = some y)) := by
  rcases open_slice ht h with ⟨hcs, _⟩ | ⟨x, l, cp, m, n, D, Pl, hcs, hb, hl, hm, hmm, _, hx⟩
  · simp at hcs
    exact .inl hcs
  · simp at hcs
    obtain ⟨rfl, rfl, rfl⟩ := hcs
    right
    have hlm : len ≤ m := by rw [hmm]; split <;> omega
    refine ⟨fun h => by simp at h, hl, hm, ?_⟩
    by_cases h0 : len = 0
    · exact .inl h0
    obtain ⟨b, off, spot⟩ := x
    have hspot : spot = none := by
      obtain ⟨cs', hcc, _⟩ := hx 0 (by omega)
      obtain ⟨_, hlen, hcell⟩ := World.cells?_some hcc
      rw [hc] at hlen hcell
      have h00 := hcell 0 (by omega)
      rw [List.getElem?_eq_getElem (by omega)] at h00
      simpa [Addr.add] using World.cell?_spot h00
    subst hspot
    refine .inr ⟨b, off, rfl, fun i hi => ?_⟩
    obtain ⟨cs', hcc, htr⟩ := hx i (by omega)
    obtain ⟨_, hlen, hcell⟩ := World.cells?_some hcc
    rw [hc] at hlen hcell
    refine ⟨cs', _, _, hlen, fun j v hv => ?_, htr⟩
    have hj : j < c := by rw [← hlen]; exact (List.getElem?_eq_some_iff.1 hv).1
    have := (hcell j hj).trans hv
    rwa [add_plain, add_plain] at this
end

def Mv.ok (m : Mv) : Prop := m.name.size ≤ maxLen ∧ m.parent.size ≤ maxLen ∧ m.base.size ≤ maxLen ∧ m.head.size ≤ maxLen ∧ m.onto.size ≤ maxLen

theorem open_mvs {H : Type} {enc : TypeId × Value → H} {w : World} {base : Nat} {spare : Nat → Bool} {held : Bool} {fuel : Nat} {a : Option Addr} {len cap : Nat} {x : DataW H × List MemPlace}
    (h : DataW.trod enc Try.prog w base spare held fuel 39 [.slice a len cap] = some x) : ∃ M : List Mv, M.length = len ∧ IsMvs w a M ∧ (a = none → M = [] ∧ cap = 0) ∧ ∀ m ∈ M, m.ok := by
  rcases open_rows Try.cells51 (by omega) Try.underlying39 h with ⟨rfl, rfl, rfl⟩ | ⟨ha, hl, hm, hlen | ⟨b, off, rfl, hx⟩⟩
  · exact ⟨[], rfl, .inl rfl, fun _ => ⟨rfl, rfl⟩, by simp⟩
  · exact ⟨[], by simp [hlen], .inl rfl, fun h => (ha h).elim, by simp⟩
  · obtain ⟨M, hM, hP⟩ := list_of (α := Mv) (P := fun i m => (w.cell? ⟨b, off + i * 5, none⟩ = some (.string m.name) ∧ w.cell? ⟨b, off + i * 5 + 1, none⟩ = some (.string m.parent) ∧ w.cell? ⟨b, off + i * 5 + 2, none⟩ = some (.string m.base) ∧ w.cell? ⟨b, off + i * 5 + 3, none⟩ = some (.string m.head) ∧ w.cell? ⟨b, off + i * 5 + 4, none⟩ = some (.string m.onto)) ∧ m.ok) len (fun i hi => by
      obtain ⟨cs, n, y, hcl, hcell, ht⟩ := hx i hi
      obtain ⟨s0, e0, z0⟩ := str_field Try.underlying51 ht 0 _ rfl rfl
      obtain ⟨s1, e1, z1⟩ := str_field Try.underlying51 ht 1 _ rfl rfl
      obtain ⟨s2, e2, z2⟩ := str_field Try.underlying51 ht 2 _ rfl rfl
      obtain ⟨s3, e3, z3⟩ := str_field Try.underlying51 ht 3 _ rfl rfl
      obtain ⟨s4, e4, z4⟩ := str_field Try.underlying51 ht 4 _ rfl rfl
      exact ⟨⟨s0, s1, s2, s3, s4⟩, ⟨hcell 0 _ e0, hcell 1 _ e1, hcell 2 _ e2, hcell 3 _ e3, hcell 4 _ e4⟩, z0, z1, z2, z3, z4⟩)
    refine ⟨M, hM, .inr ⟨b, off, rfl, fun j hj => (hP j hj).1⟩, fun h => by simp at h, fun m hm => ?_⟩
    obtain ⟨i, hi, rfl⟩ := List.getElem_of_mem hm
    exact (hP i hi).2

theorem open_strs {H : Type} {enc : TypeId × Value → H} {w : World} {base : Nat} {spare : Nat → Bool} {held : Bool} {fuel : Nat} {a : Option Addr} {len cap : Nat} {x : DataW H × List MemPlace}
    (h : DataW.trod enc Try.prog w base spare held fuel 40 [.slice a len cap] = some x) : ∃ R : List ByteArray, R.length = len ∧ IsStrs w a R ∧ ∀ r ∈ R, r.size ≤ maxLen := by
  rcases open_rows Try.cells9 (by omega) Try.underlying40 h with ⟨rfl, rfl, rfl⟩ | ⟨ha, hl, hm, hlen | ⟨b, off, rfl, hx⟩⟩
  · exact ⟨[], rfl, .inl rfl, by simp⟩
  · exact ⟨[], by simp [hlen], .inl rfl, by simp⟩
  · obtain ⟨R, hR, hP⟩ := list_of (α := ByteArray) (P := fun i s => w.cell? ⟨b, off + i, none⟩ = some (.string s) ∧ s.size ≤ maxLen) len (fun i hi => by
      obtain ⟨cs, n, y, hcl, hcell, ht⟩ := hx i hi
      obtain ⟨s, e, _, hs⟩ := DataW.trod_string Try.underlying9 ht
      subst e
      have := hcell 0 _ rfl
      rw [Nat.mul_one, Nat.add_zero] at this
      exact ⟨s, this, hs⟩)
    refine ⟨R, hR, .inr ⟨b, off, rfl, fun j hj => (hP j hj).1⟩, fun m hm => ?_⟩
    obtain ⟨i, hi, rfl⟩ := List.getElem_of_mem hm
    exact (hP i hi).2

theorem open_strmap {H : Type} {enc : TypeId × Value → H} {w : World} {base : Nat} {spare : Nat → Bool} {held : Bool} {fuel : Nat} {m : Option Nat} {x : DataW H × List MemPlace}
    (h : DataW.trod enc Try.prog w base spare held fuel 38 [.map m] = some x) : ∃ L, IsMap w m L := by
  rcases WideElems.open_map Try.underlying38 h with ⟨hcs, _⟩ | ⟨b, es, clock, n, rfl, hcs, hb, _, F, _⟩
  · simp at hcs
    exact ⟨[], .inl ⟨hcs, rfl⟩⟩
  · simp at hcs
    subst hcs
    have key : ∀ l : List MapEntry, (∀ x ∈ l, ∃ y, WideElems.rd Try.prog 9 (WideElems.elemAt enc Try.prog w base spare held n 9) x = some y) → ∃ L : List (ByteArray × ByteArray), l.map (fun e => (e.key, e.val)) = L.map (fun p => (Value.string p.1, Value.string p.2)) := by
      intro l
      induction l with
      | nil => intro _; exact ⟨[], rfl⟩
      | cons e l ih =>
        intro hl
        obtain ⟨L, hL⟩ := ih (fun x hx => hl x (by simp [hx]))
        obtain ⟨y, hy⟩ := hl e (by simp)
        obtain ⟨z, hz, _⟩ := WideElems.rd_val hy
        obtain ⟨v, hv, _, _⟩ := plainElem_string_inv Try.underlying9 (elemAt_plainElem_string Try.underlying9 hz)
        have hk := WideElems.rd_key hy
        unfold keyOf at hk
        rw [Try.underlying9] at hk
        simp only [mapKey, Try.underlying9] at hk
        obtain ⟨s, hs⟩ : ∃ s : ByteArray, e.key = .string s := by
          split at hk <;> simp_all
        exact ⟨(s, v) :: L, by rw [List.map_cons, List.map_cons, hL, hs, hv]⟩
    obtain ⟨L, hL⟩ := key es.toList F.reads
    exact ⟨L, .inr ⟨b, rfl, es, clock, hb, hL⟩⟩

end Go.Proofs.Qxb6619502a
