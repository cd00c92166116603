/-
  ZZNext by one contract; where the parser stands after c calls.
-/
import Derived.Test.Qxb6619490aRows3
namespace Go.Proofs.Qxb6619490a
open Go.RowKit

/-- E is the place of the first end token from p on, or -1. -/
def EofAt (T : List Tok) (p : Nat) (E : Int) : Prop :=
  (E = -1 ∧ ∀ j (h : j < T.length), p ≤ j → (T[j]'h).k ≠ 0) ∨
  ∃ e : Nat, E = (e : Int) ∧ p ≤ e ∧ (∃ h : e < T.length, (T[e]'h).k = 0) ∧ ∀ j (h : j < T.length), p ≤ j → j < e → (T[j]'h).k ≠ 0

/-- Where the parser stands after c calls. -/
def cur (E : Int) (p c : Nat) : Int := if 0 ≤ E ∧ E < (p : Int) + c then E else (p : Int) + c

theorem cur_zero {T : List Tok} {p : Nat} {E : Int} (h : EofAt T p E) : cur E p 0 = p := by
  unfold cur
  rcases h with ⟨rfl, _⟩ | ⟨e, rfl, hp, _, _⟩
  · simp
  · rw [if_neg (by omega)]; omega

theorem cur_step {T : List Tok} {p : Nat} {E : Int} (h : EofAt T p E) (q c : Nat) (hc : c < q) (hq : ¬ (E < 0 ∧ (T.length : Int) - p < q)) :
    ∃ i : Nat, cur E p c = (i : Int) ∧ ∃ hi : i < T.length, cur E p (c + 1) = if (T[i]'hi).k = 0 then (i : Int) else (i : Int) + 1 := by
  unfold cur
  rcases h with ⟨rfl, hA⟩ | ⟨e, rfl, hpe, ⟨he, he0⟩, hA⟩
  · refine ⟨p + c, by simp, by omega, ?_⟩
    rw [if_neg (by omega), if_neg (hA _ _ (by omega))]
    omega
  · by_cases hle : p + c < e
    · refine ⟨p + c, by rw [if_neg (by omega)]; omega, by omega, ?_⟩
      rw [if_neg (by omega), if_neg (hA _ _ (by omega) hle)]
      omega
    · by_cases heq : p + c = e
      · refine ⟨e, by rw [if_neg (by omega)]; omega, he, ?_⟩
        rw [if_pos (by omega), if_pos he0]
      · refine ⟨e, by rw [if_pos (by omega)], he, ?_⟩
        rw [if_pos (by omega), if_pos he0]

/-- ALL THAT THE LOOP KEEPS. -/
structure St (w0 : World) (O G P : Nat) (src : ByteArray) (T : List Tok) (pos depth : Int) (w : World) : Prop where
  own : Toks w O 0 T
  row : Toks w G 0 T
  par : ParserAt w P src G T.length pos depth
  bel : Below O w0 w

theorem St.below {w0 : World} {O G P : Nat} {src : ByteArray} {T : List Tok} {pos depth : Int} {w w' : World} (h : St w0 O G P src T pos depth w) (hn : 0 < T.length) (hOw : O ≤ w.heap.size) (hb : Below w.heap.size w w') : St w0 O G P src T pos depth w' := by
  have bO : O < w.heap.size := World.block_lt_of_cell? w _ (h.own 0 hn).1
  have bG : G < w.heap.size := World.block_lt_of_cell? w _ (h.row 0 hn).1
  exact ⟨h.own.below hb bO, h.row.below hb bG, h.par.below hb, h.bel.trans (hb.mono hOw)⟩

theorem St.lt {w0 : World} {O G P : Nat} {src : ByteArray} {T : List Tok} {pos depth : Int} {w : World} (h : St w0 O G P src T pos depth w) (hn : 0 < T.length) : O < w.heap.size ∧ G < w.heap.size ∧ P < w.heap.size :=
  ⟨World.block_lt_of_cell? w _ (h.own 0 hn).1, World.block_lt_of_cell? w _ (h.row 0 hn).1, World.block_lt_of_cell? w _ h.par.c0⟩

/-- ZZNext. -/
theorem next7 (w0 : World) (O G P : Nat) (src : ByteArray) (T : List Tok) (i : Nat) (depth : Int) (w : World) (hi : i < T.length) (hn : T.length ≤ 65536) (h : St w0 O G P src T (i : Int) depth w) (hOP : O < P) (hGP : G ≠ P) :
    Calls Try.prog 7 #[.pointer (some ⟨P, 0, none⟩)] w fun e w' => e = .returned (.agg #[.int .u8 (T[i]'hi).k, .string (T[i]'hi).s, .int .i64 (T[i]'hi).o]) ∧
      St w0 O G P src T (if (T[i]'hi).k = 0 then (i : Int) else (i : Int) + 1) depth w' := by
  obtain ⟨t0, t1, t2⟩ := h.row i hi
  rw [Nat.zero_add] at t0 t1 t2
  have hlt := h.lt (by omega)
  by_cases h0 : (T[i]'hi).k = 0
  · rw [if_pos h0]
    rw [h0] at t0 ⊢
    exact (next7_end src P G T.length i depth _ _ w hi h.par t0 t1 t2).mono fun e w' ⟨he, hb⟩ => ⟨he, h.below (by omega) (by omega) hb⟩
  · rw [if_neg h0]
    refine (next7_on src P G T.length i depth _ _ _ w hi hn (by simpa using h0) h.par t0 t1 t2).mono fun e w' ⟨he, hb⟩ => ⟨he, ?_⟩
    have h2 : St w0 O G P src T ((i : Int) + 1) depth (w.setCell ⟨P, 2, none⟩ (.int .i64 ((i : Int) + 1))) :=
      ⟨h.own.set (by omega) _, h.row.set hGP _, h.par.moved _, h.bel.setCell (by show O ≤ P; omega) _⟩
    exact h2.below (by omega) (by simp; omega) (by simpa using hb)

/-- The parser is made. -/
theorem St.start {w0 w : World} {O G : Nat} {src : ByteArray} {T : List Tok} {pos depth : Int} (hn : 0 < T.length) (ho : Toks w O 0 T) (hr : Toks w G 0 T) (hb : Below O w0 w) :
    St w0 O G w.heap.size src T pos depth (w.alloc (.cells #[.string src, .slice (some ⟨G, 0, none⟩) T.length T.length, .int .i64 pos, .int .i64 depth, .pointer none] 42)) := by
  have bO : O < w.heap.size := World.block_lt_of_cell? w _ (ho 0 hn).1
  have bG : G < w.heap.size := World.block_lt_of_cell? w _ (hr 0 hn).1
  exact ⟨ho.below (below_alloc w _) bO, hr.below (below_alloc w _) bG, ⟨by simp, by simp, by simp, by simp, by simp⟩, hb.trans ((below_alloc w _).mono (by omega))⟩

/-- A round of the loop that fills the row. -/
theorem fill_round {w0 w : World} {O G : Nat} {T : List Tok} {i : Nat} {o : Obj} (hi : i < T.length) (hOG : O ≠ G) (hOG2 : O < G) (h : Toks w O 0 T ∧ Toks w G 0 (T.take i) ∧ Room w G (T.length * 3) ∧ Below O w0 w) (bO : O < w.heap.size) (bG : G < w.heap.size) :
    let w' := (((w.setCell ⟨G, i * 3, none⟩ (.int .u8 (T[i]'hi).k)).setCell ⟨G, i * 3 + 1, none⟩ (.string (T[i]'hi).s)).setCell ⟨G, i * 3 + 2, none⟩ (.int .i64 (T[i]'hi).o)).alloc o
    Toks w'.drew O 0 T ∧ Toks w'.drew G 0 (T.take (i + 1)) ∧ Room w'.drew G (T.length * 3) ∧ Below O w0 w'.drew := by
  obtain ⟨h1, h2, h3, h4⟩ := h
  have hb := below_alloc (((w.setCell ⟨G, i * 3, none⟩ (.int .u8 (T[i]'hi).k)).setCell ⟨G, i * 3 + 1, none⟩ (.string (T[i]'hi).s)).setCell ⟨G, i * 3 + 2, none⟩ (.int .i64 (T[i]'hi).o)) o
  have hz : (((w.setCell ⟨G, i * 3, none⟩ (.int .u8 (T[i]'hi).k)).setCell ⟨G, i * 3 + 1, none⟩ (.string (T[i]'hi).s)).setCell ⟨G, i * 3 + 2, none⟩ (.int .i64 (T[i]'hi).o)).heap.size = w.heap.size := by simp
  have h3' := ((h3.set ⟨G, i * 3, none⟩ (.int .u8 (T[i]'hi).k)).set ⟨G, i * 3 + 1, none⟩ (.string (T[i]'hi).s)).set ⟨G, i * 3 + 2, none⟩ (.int .i64 (T[i]'hi).o)
  have h1' := ((h1.set (o := i * 3) hOG (.int .u8 (T[i]'hi).k)).set (o := i * 3 + 1) hOG (.string (T[i]'hi).s)).set (o := i * 3 + 2) hOG (.int .i64 (T[i]'hi).o)
  refine ⟨h1'.below hb.drew (by omega), (fill_step hi h3 h2).below hb.drew (by omega), h3'.below hb.drew (by omega), ?_⟩
  exact ((((h4.setCell (Nat.le_of_lt hOG2) _).setCell (Nat.le_of_lt hOG2) _).setCell (Nat.le_of_lt hOG2) _).trans (hb.mono (by omega))).drew

/-- A round of the last loop: three blocks are laid. -/
theorem last_round {w0 w : World} {O G : Nat} {T : List Tok} {o : Obj} (h : Toks w O 0 T ∧ Toks w G 0 T ∧ Below O w0 w) (bO : O < w.heap.size) (bG : G < w.heap.size) :
    Toks (((w.alloc o).alloc o).alloc o).drew O 0 T ∧ Toks (((w.alloc o).alloc o).alloc o).drew G 0 T ∧ Below O w0 (((w.alloc o).alloc o).alloc o).drew := by
  have hb : Below w.heap.size w (((w.alloc o).alloc o).alloc o).drew := (((below_alloc _ _).alloc (by simp) _).alloc (by simp; omega) _).drew
  exact ⟨h.1.below hb bO, h.2.1.below hb bG, h.2.2.trans (hb.mono (by omega))⟩

end Go.Proofs.Qxb6619490a
