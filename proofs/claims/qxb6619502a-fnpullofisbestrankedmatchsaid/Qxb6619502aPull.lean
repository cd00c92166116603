/-
  Pulls: their cells; zzForgePull, zzSamePull.
-/
import Derived.Test.Qxb6619502aPutBack
import Derived.Deep.QuietTactic
import Derived.BigQuiet
namespace Go.Proofs.Qxb6619502a
open Go.RowKit

/-- A pull. -/
structure Pl where
  num : Int
  title : ByteArray
  state : ByteArray
  merged : Bool
  head : ByteArray
  hsha : ByteArray
  base : ByteArray
  msha : ByteArray
  url : ByteArray
  stack : Int

def plCells (p : Pl) : List Value := [.int .i64 p.num, .string p.title, .string p.state, .bool p.merged, .string p.head, .string p.hsha, .string p.base, .string p.msha, .string p.url, .int .i64 p.stack]
theorem plCells_length (p : Pl) : (plCells p).length = 10 := rfl
/-- A pull as a value. -/
def plV (p : Pl) : Value := .agg #[.int .i64 p.num, .string p.title, .string p.state, .bool p.merged, .string p.head, .string p.hsha, .string p.base, .string p.msha, .string p.url, .int .i64 p.stack]

/-- The texts of a pull are no longer than a text can be. -/
def Pl.ok (p : Pl) : Prop := p.title.size ≤ maxLen ∧ p.state.size ≤ maxLen ∧ p.head.size ≤ maxLen ∧ p.hsha.size ≤ maxLen ∧ p.base.size ≤ maxLen ∧ p.msha.size ≤ maxLen ∧ p.url.size ≤ maxLen

/-- The pull p lies at block b, offset o. -/
def PlAt (w : World) (b o : Nat) (p : Pl) : Prop :=
  w.cell? ⟨b, o, none⟩ = some (.int .i64 p.num) ∧ w.cell? ⟨b, o + 1, none⟩ = some (.string p.title) ∧ w.cell? ⟨b, o + 2, none⟩ = some (.string p.state) ∧ w.cell? ⟨b, o + 3, none⟩ = some (.bool p.merged) ∧
  w.cell? ⟨b, o + 4, none⟩ = some (.string p.head) ∧ w.cell? ⟨b, o + 5, none⟩ = some (.string p.hsha) ∧ w.cell? ⟨b, o + 6, none⟩ = some (.string p.base) ∧ w.cell? ⟨b, o + 7, none⟩ = some (.string p.msha) ∧
  w.cell? ⟨b, o + 8, none⟩ = some (.string p.url) ∧ w.cell? ⟨b, o + 9, none⟩ = some (.int .i64 p.stack)

theorem Row.pl {w : World} {b o : Nat} {p : Pl} (h : Row w b o (plCells p)) : PlAt w b o p := ⟨h 0 _ rfl, h 1 _ rfl, h 2 _ rfl, h 3 _ rfl, h 4 _ rfl, h 5 _ rfl, h 6 _ rfl, h 7 _ rfl, h 8 _ rfl, h 9 _ rfl⟩

/-- The pulls of a slice. -/
def IsPls (w : World) (a : Option Addr) (L : List Pl) : Prop := L = [] ∨ ∃ b off, a = some ⟨b, off, none⟩ ∧ Row w b off (L.flatMap plCells)

theorem IsPls.below {w w' : World} {a : Option Addr} {L : List Pl} (h : IsPls w a L) (hb : Below w.heap.size w w') : IsPls w' a L := by
  rcases h with h | ⟨b, off, rfl, hm⟩
  · exact .inl h
  · by_cases hn : L = []
    · exact .inl hn
    · refine .inr ⟨b, off, rfl, hm.below hb (hm.lt ?_)⟩
      rw [flat_length plCells 10 plCells_length]
      have : L.length ≠ 0 := by simpa using hn
      omega

theorem IsPls.at {w : World} {a : Option Addr} {L : List Pl} (h : IsPls w a L) (i : Nat) (hi : i < L.length) : ∃ b off, a = some ⟨b, off, none⟩ ∧ PlAt w b (off + i * 10) (L[i]'hi) := by
  rcases h with rfl | ⟨b, off, rfl, hm⟩
  · simp at hi
  · exact ⟨b, off, rfl, (hm.elem plCells_length i hi).pl⟩

set_option maxHeartbeats 1000000 in
/-- zzForgePull -/
theorem pull13 (p : Pl) (w : World) : Calls Try.prog 13 #[plV p] w fun e w' => e = .returned (plV p) ∧ w' = (w.alloc (.cells (plCells p).toArray 33)).alloc (.cells (plCells p).toArray 28) := by
  unfold plV
  go_enter Try.func13, Try.ntmps13
  go_wp2
  exact bodyPost_ret (v := .agg #[.int .i64 p.num, .string p.title, .string p.state, .bool p.merged, .string p.head, .string p.hsha, .string p.base, .string p.msha, .string p.url, .int .i64 p.stack]) (by simp [results, Try.results13, go_sem]) rfl ⟨rfl, rfl⟩

/-- Two rows of cells, compared field by field: it answers; alike rows: true. -/
def EqF (xs ys : Array Value) (fs : List Field) : Prop := ∃ b : Bool, (∀ w, (Op.eqFields 9999 xs ys fs).run Try.prog w = .ok b w) ∧ (xs = ys → b = true)

theorem EqF.nil (xs ys : Array Value) : EqF xs ys [] := ⟨true, fun w => by simp [Op.eqFields], fun _ => rfl⟩

theorem EqF.cons {xs ys : Array Value} {fs : List Field} (f : Field) (u v : Value) (r : Bool) (hn : f.name ≠ "_") (h1 : ∀ w, (part f.type xs f.offset).run Try.prog w = .ok u w) (h2 : ∀ w, (part f.type ys f.offset).run Try.prog w = .ok v w)
    (h3 : ∀ w, (Op.equalIn 9999 f.type u v).run Try.prog w = .ok r w) (h4 : xs = ys → r = true) (h : EqF xs ys fs) : EqF xs ys (f :: fs) := by
  obtain ⟨b, hb, hx⟩ := h
  cases r with
  | true => exact ⟨b, fun w => by simp [Op.eqFields, hn, h1, h2, h3, hb, Result.andThen], hx⟩
  | false => exact ⟨false, fun w => by simp [Op.eqFields, hn, h1, h2, h3, Result.andThen], h4⟩

theorem part9 (xs : Array Value) (o : Nat) (v : Value) (w : World) (h : xs[o]? = some v) : (part 9 xs o).run Try.prog w = .ok v w := by
  simp [part, isAgg, run_underlying Try.underlying9, h, Result.andThen]
theorem part3 (xs : Array Value) (o : Nat) (v : Value) (w : World) (h : xs[o]? = some v) : (part 3 xs o).run Try.prog w = .ok v w := by
  simp [part, isAgg, run_underlying Try.underlying3, h, Result.andThen]
theorem part4 (xs : Array Value) (o : Nat) (v : Value) (w : World) (h : xs[o]? = some v) : (part 4 xs o).run Try.prog w = .ok v w := by
  simp [part, isAgg, run_underlying Try.underlying4, h, Result.andThen]

theorem eq9 (d : Nat) (s t : ByteArray) (w : World) : (Op.equalIn (d + 1) 9 (.string s) (.string t)).run Try.prog w = .ok (s == t) w := by simp [Op.equalIn, run_underlying Try.underlying9, Result.andThen]
theorem eq3 (d : Nat) (s t : Int) (w : World) : (Op.equalIn (d + 1) 3 (.int .i64 s) (.int .i64 t)).run Try.prog w = .ok (s == t) w := by simp [Op.equalIn, run_underlying Try.underlying3, Result.andThen]
theorem eq4 (d : Nat) (s t : Bool) (w : World) : (Op.equalIn (d + 1) 4 (.bool s) (.bool t)).run Try.prog w = .ok (s == t) w := by simp [Op.equalIn, run_underlying Try.underlying4, Result.andThen]

theorem EqF.str {xs ys : Array Value} {fs : List Field} (f : Field) (s t : ByteArray) (h9 : f.type = 9) (hn : f.name ≠ "_") (h1 : xs[f.offset]? = some (.string s)) (h2 : ys[f.offset]? = some (.string t)) (h : EqF xs ys fs) : EqF xs ys (f :: fs) := by
  refine EqF.cons f (.string s) (.string t) (s == t) hn (fun w => by rw [h9]; exact part9 _ _ _ _ h1) (fun w => by rw [h9]; exact part9 _ _ _ _ h2) (fun w => by rw [h9]; exact eq9 9998 s t w) (fun e => ?_) h
  subst e
  rw [h1] at h2
  cases h2
  cases s with | mk a =>
  show (a == a) = true
  exact beq_self_eq_true a
theorem EqF.int {xs ys : Array Value} {fs : List Field} (f : Field) (s t : Int) (h3 : f.type = 3) (hn : f.name ≠ "_") (h1 : xs[f.offset]? = some (.int .i64 s)) (h2 : ys[f.offset]? = some (.int .i64 t)) (h : EqF xs ys fs) : EqF xs ys (f :: fs) := by
  refine EqF.cons f (.int .i64 s) (.int .i64 t) (s == t) hn (fun w => by rw [h3]; exact part3 _ _ _ _ h1) (fun w => by rw [h3]; exact part3 _ _ _ _ h2) (fun w => by rw [h3]; exact eq3 9998 s t w) (fun e => ?_) h
  subst e
  rw [h1] at h2
  cases h2
  exact beq_self_eq_true _
theorem EqF.bool {xs ys : Array Value} {fs : List Field} (f : Field) (s t : Bool) (h4 : f.type = 4) (hn : f.name ≠ "_") (h1 : xs[f.offset]? = some (.bool s)) (h2 : ys[f.offset]? = some (.bool t)) (h : EqF xs ys fs) : EqF xs ys (f :: fs) := by
  refine EqF.cons f (.bool s) (.bool t) (s == t) hn (fun w => by rw [h4]; exact part4 _ _ _ _ h1) (fun w => by rw [h4]; exact part4 _ _ _ _ h2) (fun w => by rw [h4]; exact eq4 9998 s t w) (fun e => ?_) h
  subst e
  rw [h1] at h2
  cases h2
  exact beq_self_eq_true _

theorem eqf28 (p q : Pl) : ∃ b : Bool, (∀ w, (Op.equal 28 (plV p) (plV q)).run Try.prog w = .ok b w) ∧ (p = q → b = true) := by
  unfold plV
  have hf : Try.prog.underlying 28 = some (.struct (Try.prog.fieldsOf 28)) := by kernel_rfl
  have h := fun w => run_equalIn_struct (P := Try.prog) w 9999 28 #[.int .i64 p.num, .string p.title, .string p.state, .bool p.merged, .string p.head, .string p.hsha, .string p.base, .string p.msha, .string p.url, .int .i64 p.stack] #[.int .i64 q.num, .string q.title, .string q.state, .bool q.merged, .string q.head, .string q.hsha, .string q.base, .string q.msha, .string q.url, .int .i64 q.stack] hf (by kernel_rfl)
  rw [Try.underlying28] at hf
  have hf' := TypeDesc.struct.inj (Option.some.inj hf)
  have key : EqF #[.int .i64 p.num, .string p.title, .string p.state, .bool p.merged, .string p.head, .string p.hsha, .string p.base, .string p.msha, .string p.url, .int .i64 p.stack] #[.int .i64 q.num, .string q.title, .string q.state, .bool q.merged, .string q.head, .string q.hsha, .string q.base, .string q.msha, .string q.url, .int .i64 q.stack] (Try.prog.fieldsOf 28).toList := by
    rw [← hf']
    exact EqF.int _ _ _ rfl (by decide) rfl rfl (EqF.str _ _ _ rfl (by decide) rfl rfl (EqF.str _ _ _ rfl (by decide) rfl rfl (EqF.bool _ _ _ rfl (by decide) rfl rfl (EqF.str _ _ _ rfl (by decide) rfl rfl
      (EqF.str _ _ _ rfl (by decide) rfl rfl (EqF.str _ _ _ rfl (by decide) rfl rfl (EqF.str _ _ _ rfl (by decide) rfl rfl (EqF.str _ _ _ rfl (by decide) rfl rfl (EqF.int _ _ _ rfl (by decide) rfl rfl (EqF.nil _ _))))))))))
  obtain ⟨b, hb, hx⟩ := key
  exact ⟨b, fun w => (h w).trans (hb w), fun e => hx (by rw [e])⟩

theorem eql28 (p q : Pl) : ∃ b : Bool, (∀ w, (binOp .eql 28 (plV p) (plV q)).run Try.prog w = .ok (.bool b) w) ∧ (p = q → b = true) := by
  obtain ⟨b, hb, hx⟩ := eqf28 p q
  unfold plV at hb ⊢
  exact ⟨b, fun w => by simp [binOp, hb, Result.andThen], hx⟩

theorem neq28 (p q : Pl) : ∃ b : Bool, (∀ w, (binOp .neq 28 (plV p) (plV q)).run Try.prog w = .ok (.bool (!b)) w) ∧ (p = q → b = true) := by
  obtain ⟨b, hb, hx⟩ := eqf28 p q
  unfold plV at hb ⊢
  exact ⟨b, fun w => by simp [binOp, hb, Result.andThen], hx⟩

end Go.Proofs.Qxb6619502a
