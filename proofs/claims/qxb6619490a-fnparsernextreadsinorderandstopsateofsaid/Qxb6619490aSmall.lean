/-
  The small functions of the law: tokens made and read, the parser made and read.
-/
import Derived.Test.Qxb6619490aRows
import Derived.WalkKit
import Derived.RegionTactic
import Derived.BigRegion
namespace Go.Proofs.Qxb6619490a
open Go.RowKit

theorem ret_bool {a b : Bool} (h : a = b) : Ending.returned (.bool a) = .returned (.bool b) := by rw [h]

set_option maxHeartbeats 400000 in
/-- ZZMakeToken -/
theorem make5 (k : Int) (s : ByteArray) (o : Int) (w : World) :
    Calls Try.prog 5 #[.int .u8 k, .string s, .int .i64 o] w fun e w' => e = .returned (.agg #[.int .u8 k, .string s, .int .i64 o]) ∧ w' = w.alloc (.cells #[.int .u8 k, .string s, .int .i64 o] 29) := by
  go_enter Try.func5, Try.ntmps5
  go_wp2
  exact bodyPost_ret (v := .agg #[.int .u8 k, .string s, .int .i64 o]) (by simp [results, Try.results5, go_sem]) rfl ⟨rfl, rfl⟩

/-- ZZTokenKind -/
theorem kind8 (k : Int) (s : ByteArray) (o : Int) (w : World) :
    Calls Try.prog 8 #[.agg #[.int .u8 k, .string s, .int .i64 o]] w fun e w' => e = .returned (.int .u8 k) ∧ w' = w.alloc (.cells #[.int .u8 k, .string s, .int .i64 o] 29) := by
  go_enter Try.func8, Try.ntmps8
  go_wp2
  go_ret
  exact ⟨rfl, rfl⟩

/-- ZZTokenText -/
theorem text9 (k : Int) (s : ByteArray) (o : Int) (w : World) :
    Calls Try.prog 9 #[.agg #[.int .u8 k, .string s, .int .i64 o]] w fun e w' => e = .returned (.string s) ∧ w' = w.alloc (.cells #[.int .u8 k, .string s, .int .i64 o] 29) := by
  go_enter Try.func9, Try.ntmps9
  go_wp2
  go_ret
  exact ⟨rfl, rfl⟩

/-- ZZTokenOffset -/
theorem offset10 (k : Int) (s : ByteArray) (o : Int) (w : World) :
    Calls Try.prog 10 #[.agg #[.int .u8 k, .string s, .int .i64 o]] w fun e w' => e = .returned (.int .i64 o) ∧ w' = w.alloc (.cells #[.int .u8 k, .string s, .int .i64 o] 29) := by
  go_enter Try.func10, Try.ntmps10
  go_wp2
  go_ret
  exact ⟨rfl, rfl⟩

/-- ZZNewParser -/
theorem parser6 (src : ByteArray) (ts : Value) (g n : Nat) (pos depth : Int) (w : World) (hts : ts = .slice (some ⟨g, 0, none⟩) n n) :
    Calls Try.prog 6 #[.string src, ts, .int .i64 pos, .int .i64 depth] w fun e w' =>
      e = .returned (.pointer (some ⟨w.heap.size, 0, none⟩)) ∧ w' = w.alloc (.cells #[.string src, ts, .int .i64 pos, .int .i64 depth, .pointer none] 42) := by
  subst hts
  go_enter Try.func6, Try.ntmps6
  go_wp2
  go_ret
  exact ⟨rfl, rfl⟩

/-- The parser in block P. -/
structure ParserAt (w : World) (P : Nat) (src : ByteArray) (g n : Nat) (pos depth : Int) : Prop where
  c0 : w.cell? ⟨P, 0, none⟩ = some (.string src)
  c1 : w.cell? ⟨P, 1, none⟩ = some (.slice (some ⟨g, 0, none⟩) n n)
  c2 : w.cell? ⟨P, 2, none⟩ = some (.int .i64 pos)
  c3 : w.cell? ⟨P, 3, none⟩ = some (.int .i64 depth)
  f2 : w.frozen? ⟨P, 2, none⟩ = false

/-- ZZParserPos -/
theorem pos11 (src : ByteArray) (P g n : Nat) (pos depth : Int) (w : World) (h : ParserAt w P src g n pos depth) :
    Calls Try.prog 11 #[.pointer (some ⟨P, 0, none⟩)] w fun e w' => e = .returned (.int .i64 pos) ∧ w' = w := by
  obtain ⟨c0, c1, c2, c3, f2⟩ := h
  go_enter Try.func11, Try.ntmps11
  go_wp2
  go_ret
  exact ⟨rfl, rfl⟩

/-- ZZParserSrc -/
theorem src12 (src : ByteArray) (P g n : Nat) (pos depth : Int) (w : World) (h : ParserAt w P src g n pos depth) :
    Calls Try.prog 12 #[.pointer (some ⟨P, 0, none⟩)] w fun e w' => e = .returned (.string src) ∧ w' = w := by
  obtain ⟨c0, c1, c2, c3, f2⟩ := h
  go_enter Try.func12, Try.ntmps12
  go_wp2
  go_ret
  exact ⟨rfl, rfl⟩

/-- ZZParserDepth -/
theorem depth13 (src : ByteArray) (P g n : Nat) (pos depth : Int) (w : World) (h : ParserAt w P src g n pos depth) :
    Calls Try.prog 13 #[.pointer (some ⟨P, 0, none⟩)] w fun e w' => e = .returned (.int .i64 depth) ∧ w' = w := by
  obtain ⟨c0, c1, c2, c3, f2⟩ := h
  go_enter Try.func13, Try.ntmps13
  go_wp2
  go_ret
  exact ⟨rfl, rfl⟩

/-- ZZParserToks -/
theorem toks14 (src : ByteArray) (P g n : Nat) (pos depth : Int) (w : World) (h : ParserAt w P src g n pos depth) :
    Calls Try.prog 14 #[.pointer (some ⟨P, 0, none⟩)] w fun e w' => e = .returned (.slice (some ⟨g, 0, none⟩) n n) ∧ w' = w := by
  obtain ⟨c0, c1, c2, c3, f2⟩ := h
  go_enter Try.func14, Try.ntmps14
  go_wp2
  go_ret
  exact ⟨rfl, rfl⟩

set_option maxHeartbeats 1000000 in
/-- (*parser).next at an end token: it stays. -/
theorem next15_end (src : ByteArray) (P g n j : Nat) (depth : Int) (s : ByteArray) (o : Int) (w : World) (hj : j < n) (h : ParserAt w P src g n (j : Int) depth)
    (t0 : w.cell? ⟨g, j * 3, none⟩ = some (.int .u8 0)) (t1 : w.cell? ⟨g, j * 3 + 1, none⟩ = some (.string s)) (t2 : w.cell? ⟨g, j * 3 + 2, none⟩ = some (.int .i64 o)) :
    Calls Try.prog 15 #[.pointer (some ⟨P, 0, none⟩)] w fun e w' => e = .returned (.agg #[.int .u8 0, .string s, .int .i64 o]) ∧ Below w.heap.size w w' := by
  obtain ⟨c0, c1, c2, c3, f2⟩ := h
  have b0 := World.block_lt_of_cell? w _ c0
  have b1 := World.block_lt_of_cell? w _ t0
  have hj0 : (0 : Int) ≤ (j : Int) := by omega
  have hj1 : (j : Int) < (n : Int) := by omega
  go_enter Try.func15, Try.ntmps15
  go_wp2
  go_region
  go_wp2
  exact bodyPost_ret (v := .agg #[.int .u8 0, .string s, .int .i64 o]) (by simp [results, Try.results15, go_sem]) rfl ⟨rfl, (((Below.refl _ _).alloc (Nat.le_refl _) _).alloc (by simp) _).drew⟩

set_option maxHeartbeats 1000000 in
/-- (*parser).next at another token: it goes on. -/
theorem next15_on (src : ByteArray) (P g n j : Nat) (depth : Int) (k : Int) (s : ByteArray) (o : Int) (w : World) (hj : j < n) (hn : n ≤ 65536) (hk : (k != 0) = true) (h : ParserAt w P src g n (j : Int) depth)
    (t0 : w.cell? ⟨g, j * 3, none⟩ = some (.int .u8 k)) (t1 : w.cell? ⟨g, j * 3 + 1, none⟩ = some (.string s)) (t2 : w.cell? ⟨g, j * 3 + 2, none⟩ = some (.int .i64 o)) :
    Calls Try.prog 15 #[.pointer (some ⟨P, 0, none⟩)] w fun e w' => e = .returned (.agg #[.int .u8 k, .string s, .int .i64 o]) ∧ Below w.heap.size (w.setCell ⟨P, 2, none⟩ (.int .i64 ((j : Int) + 1))) w' := by
  obtain ⟨c0, c1, c2, c3, f2⟩ := h
  have b0 := World.block_lt_of_cell? w _ c0
  have b1 := World.block_lt_of_cell? w _ t0
  have hj0 : (0 : Int) ≤ (j : Int) := by omega
  have hj1 : (j : Int) < (n : Int) := by omega
  go_enter Try.func15, Try.ntmps15
  go_wp2
  go_region
  go_wp2
  exact bodyPost_ret (v := .agg #[.int .u8 k, .string s, .int .i64 o]) (by simp [results, Try.results15, go_sem]) rfl ⟨rfl, (((Below.refl _ _).alloc (by simp) _).alloc (by simp) _).drew⟩

theorem bel_cell {B : Nat} {w w' : World} (hb : Below B w w') {b : Nat} (h : b < B) (o : Nat) : w'.cell? ⟨b, o, none⟩ = w.cell? ⟨b, o, none⟩ := hb.cell (p := ⟨b, o, none⟩) h
theorem bel_frozen {B : Nat} {w w' : World} (hb : Below B w w') {b : Nat} (h : b < B) (o : Nat) : w'.frozen? ⟨b, o, none⟩ = w.frozen? ⟨b, o, none⟩ := hb.frozen (p := ⟨b, o, none⟩) h

theorem ParserAt.below {w w' : World} {P : Nat} {src : ByteArray} {g n : Nat} {pos depth : Int} (h : ParserAt w P src g n pos depth) (hb : Below w.heap.size w w') : ParserAt w' P src g n pos depth := by
  have b0 : P < w.heap.size := World.block_lt_of_cell? w _ h.c0
  exact ⟨(bel_cell hb b0 _).trans h.c0, (bel_cell hb b0 _).trans h.c1, (bel_cell hb b0 _).trans h.c2, (bel_cell hb b0 _).trans h.c3, (bel_frozen hb b0 _).trans h.f2⟩

theorem below_alloc (w : World) (o : Obj) : Below w.heap.size w (w.alloc o) := (Below.refl _ _).alloc (Nat.le_refl _) _

theorem ParserAt.moved {w : World} {P : Nat} {src : ByteArray} {g n : Nat} {pos depth : Int} (h : ParserAt w P src g n pos depth) (pos' : Int) : ParserAt (w.setCell ⟨P, 2, none⟩ (.int .i64 pos')) P src g n pos' depth := by
  have ne : ∀ j : Nat, j ≠ 2 → (⟨P, 2, none⟩ : Addr) ≠ ⟨P, j, none⟩ := fun j hj e => hj (congrArg Addr.off e).symm
  exact ⟨by rw [World.cell?_setCell_other _ _ _ _ (ne 0 (by omega))]; exact h.c0, by rw [World.cell?_setCell_other _ _ _ _ (ne 1 (by omega))]; exact h.c1, World.cell?_setCell_same _ _ _ h.c2,
    by rw [World.cell?_setCell_other _ _ _ _ (ne 3 (by omega))]; exact h.c3, by rw [World.frozen?_setCell]; exact h.f2⟩

set_option maxHeartbeats 1000000 in
/-- ZZNext at an end token. -/
theorem next7_end (src : ByteArray) (P g n j : Nat) (depth : Int) (s : ByteArray) (o : Int) (w : World) (hj : j < n) (h : ParserAt w P src g n (j : Int) depth)
    (t0 : w.cell? ⟨g, j * 3, none⟩ = some (.int .u8 0)) (t1 : w.cell? ⟨g, j * 3 + 1, none⟩ = some (.string s)) (t2 : w.cell? ⟨g, j * 3 + 2, none⟩ = some (.int .i64 o)) :
    Calls Try.prog 7 #[.pointer (some ⟨P, 0, none⟩)] w fun e w' => e = .returned (.agg #[.int .u8 0, .string s, .int .i64 o]) ∧ Below w.heap.size w w' := by
  have b1 : g < w.heap.size := World.block_lt_of_cell? w _ t0
  have HP : Hid (ParserAt w P src g n (j : Int) depth) := h
  clear h
  go_enter Try.func7, Try.ntmps7
  go_wp2_with fail
  refine (next15_end src P g n j depth s o _ hj (HP.out.below (below_alloc _ _)) ((bel_cell (below_alloc _ _) b1 _).trans t0) ((bel_cell (below_alloc _ _) b1 _).trans t1) ((bel_cell (below_alloc _ _) b1 _).trans t2)).mono ?_
  rintro e w1 ⟨rfl, hb⟩
  have hz : w.heap.size < w1.heap.size := by have := hb.size; simp at this; omega
  have c0 : w1.cell? ⟨w.heap.size, 0, none⟩ = some (.int .u8 0) := by rw [hb.cell (by simp)]; simp
  have c1 : w1.cell? ⟨w.heap.size, 1, none⟩ = some (.string ⟨#[]⟩) := by rw [hb.cell (by simp)]; simp
  have c2 : w1.cell? ⟨w.heap.size, 2, none⟩ = some (.int .i64 0) := by rw [hb.cell (by simp)]; simp
  have f0 : w1.frozen? ⟨w.heap.size, 0, none⟩ = false := by rw [hb.frozen (by simp)]; simp
  have f1 : w1.frozen? ⟨w.heap.size, 1, none⟩ = false := by rw [hb.frozen (by simp)]; simp
  have f2 : w1.frozen? ⟨w.heap.size, 2, none⟩ = false := by rw [hb.frozen (by simp)]; simp
  have hbel : Hid (Below w.heap.size w w1) := (below_alloc w _).trans (hb.mono (by simp))
  clear hb
  go_wp2
  exact bodyPost_ret (v := .agg #[.int .u8 0, .string s, .int .i64 o]) (by simp [results, Try.results7, go_sem, c0, c1, c2]) rfl ⟨rfl, ((hbel.out.setCell (by simp) _).setCell (by simp) _).setCell (by simp) _⟩

set_option maxHeartbeats 1000000 in
/-- ZZNext at another token. -/
theorem next7_on (src : ByteArray) (P g n j : Nat) (depth : Int) (k : Int) (s : ByteArray) (o : Int) (w : World) (hj : j < n) (hn : n ≤ 65536) (hk : (k != 0) = true) (h : ParserAt w P src g n (j : Int) depth)
    (t0 : w.cell? ⟨g, j * 3, none⟩ = some (.int .u8 k)) (t1 : w.cell? ⟨g, j * 3 + 1, none⟩ = some (.string s)) (t2 : w.cell? ⟨g, j * 3 + 2, none⟩ = some (.int .i64 o)) :
    Calls Try.prog 7 #[.pointer (some ⟨P, 0, none⟩)] w fun e w' => e = .returned (.agg #[.int .u8 k, .string s, .int .i64 o]) ∧ Below w.heap.size (w.setCell ⟨P, 2, none⟩ (.int .i64 ((j : Int) + 1))) w' := by
  have b1 : g < w.heap.size := World.block_lt_of_cell? w _ t0
  have b0 : P < w.heap.size := World.block_lt_of_cell? w _ h.c0
  have HP : Hid (ParserAt w P src g n (j : Int) depth) := h
  have HK : Hid ((k != 0) = true) := hk
  clear h hk
  go_enter Try.func7, Try.ntmps7
  go_wp2_with fail
  refine (next15_on src P g n j depth k s o _ hj hn HK.out (HP.out.below (below_alloc _ _)) ((bel_cell (below_alloc _ _) b1 _).trans t0) ((bel_cell (below_alloc _ _) b1 _).trans t1) ((bel_cell (below_alloc _ _) b1 _).trans t2)).mono ?_
  rintro e w1 ⟨rfl, hb⟩
  rw [World.setCell_alloc_past _ _ _ _ b0] at hb
  have hz : w.heap.size < w1.heap.size := by have := hb.size; simp at this; omega
  have c0 : w1.cell? ⟨w.heap.size, 0, none⟩ = some (.int .u8 0) := by rw [hb.cell (by simp), World.cell?_alloc_at _ _ _ _ (by simp)]; simp
  have c1 : w1.cell? ⟨w.heap.size, 1, none⟩ = some (.string ⟨#[]⟩) := by rw [hb.cell (by simp), World.cell?_alloc_at _ _ _ _ (by simp)]; simp
  have c2 : w1.cell? ⟨w.heap.size, 2, none⟩ = some (.int .i64 0) := by rw [hb.cell (by simp), World.cell?_alloc_at _ _ _ _ (by simp)]; simp
  have f0 : w1.frozen? ⟨w.heap.size, 0, none⟩ = false := by rw [hb.frozen (by simp), World.frozen?_alloc_at _ _ _ _ (by simp)]
  have f1 : w1.frozen? ⟨w.heap.size, 1, none⟩ = false := by rw [hb.frozen (by simp), World.frozen?_alloc_at _ _ _ _ (by simp)]
  have f2 : w1.frozen? ⟨w.heap.size, 2, none⟩ = false := by rw [hb.frozen (by simp), World.frozen?_alloc_at _ _ _ _ (by simp)]
  have hbel : Hid (Below w.heap.size (w.setCell ⟨P, 2, none⟩ (.int .i64 ((j : Int) + 1))) w1) := ((Below.refl _ _).alloc (by simp) _).trans (hb.mono (by simp))
  clear hb
  go_wp2
  exact bodyPost_ret (v := .agg #[.int .u8 k, .string s, .int .i64 o]) (by simp [results, Try.results7, go_sem, c0, c1, c2]) rfl ⟨rfl, ((hbel.out.setCell (by simp) _).setCell (by simp) _).setCell (by simp) _⟩

end Go.Proofs.Qxb6619490a
