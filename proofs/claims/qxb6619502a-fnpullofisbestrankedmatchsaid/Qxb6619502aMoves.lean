/-
  zzStackMoves: the moves handed over in a fresh slice.
-/
import Derived.Test.Qxb6619502aRow
import Derived.Test.Qxb6619502aNames
import Derived.Laws.Cover3
import Derived.Lib.LazyBuf
namespace Go.Proofs.Qxb6619502a
open Go.RowKit

theorem Try.info54 : (Try.prog.info? 54).map (fun i => (i.zero, i.size, i.bytes)) = some (some (.agg #[.string ⟨#[]⟩, .string ⟨#[]⟩, .string ⟨#[]⟩, .string ⟨#[]⟩, .string ⟨#[]⟩]), 5, 80) := by kernel_rfl

/-- A slice of moves that the call has made: nil, or at the head of a block from B on. -/
def OwnMvs (w : World) (B : Nat) (a : Option Addr) (M : List Mv) : Prop := (a = none ∧ M = []) ∨ ∃ g, a = some ⟨g, 0, none⟩ ∧ B ≤ g ∧ Row w g 0 (M.flatMap mvCells)

theorem eqnil (w : World) (a : Option Addr) (l c : Nat) : (binOp .eql 39 (.slice a l c) (.slice none 0 0)).run Try.prog w = .ok (.bool a.isNone) w := by
  have := run_equal_slice_nil (P := Try.prog) w 39 51 a l c Try.underlying39
  simp [binOp, this]

set_option maxHeartbeats 1000000 in
/-- zzStackMoves -/
theorem moves17 (am : Option Addr) (cm : Nat) (M : List Mv) (w : World) (hM : IsMvs w am M) (hnil : am = none → M = [] ∧ cm = 0) (hm : M.length ≤ 4096) :
    Calls Try.prog 17 #[.slice am M.length cm] w fun e w' => ∃ a, e = .returned (.slice a M.length M.length) ∧ OwnMvs w' w.heap.size a M ∧ Below w.heap.size w w' := by
  have HM : Hid (IsMvs w am M) := hM
  clear hM
  have heq := eqnil w am M.length cm
  cases am with
  | none =>
    obtain ⟨rfl, rfl⟩ := hnil rfl
    clear hnil heq
    have heq := eqnil w none 0 0
    go_enter Try.func17, Try.ntmps17
    go_wp2
    go_ret
    exact ⟨none, rfl, .inl ⟨rfl, rfl⟩, Below.refl _ _⟩
  | some x =>
    clear hnil
    obtain ⟨i0, hi, hz0, hz1, hz2⟩ := info_parts Try.info54
    have hmake := run_make (P := Try.prog) w 44 54 i0 _ Try.underlying44 hi hz0 .i64 .i64 (M.length : Int) (M.length : Int) (by omega) (by omega) (by rw [hz2]; omega) (by omega)
    rw [hz1, Int.toNat_natCast] at hmake
    have HC := size_madeCells (Value.agg #[.string ⟨#[]⟩, .string ⟨#[]⟩, .string ⟨#[]⟩, .string ⟨#[]⟩, .string ⟨#[]⟩]).cells (M.length * 5)
    generalize madeCells _ (M.length * 5) = C at hmake HC
    have HC : Hid (C.size = M.length * 5) := HC
    rename_i HC0
    clear HC0 hz0 hz1 hz2 hi
    go_enter Try.func17, Try.ntmps17
    go_wp2_with fail
    have Hst : Hid (Row (w.alloc (.cells C 54)) w.heap.size 0 ((M.take 0).flatMap mvCells) ∧ Room (w.alloc (.cells C 54)) w.heap.size (M.length * 5) ∧ Below w.heap.size w (w.alloc (.cells C 54))) :=
      ⟨by simpa using Row.nil _ _ _, Room.made w C 54 _ HC.out, below_alloc w _⟩
    clear hmake heq
    go_loopw [4, 5] (fun i _ wr => ∃ j : Nat, j ≤ M.length ∧ i = .int .i64 j ∧ Hid (Row wr w.heap.size 0 ((M.take j).flatMap mvCells) ∧ Room wr w.heap.size (M.length * 5) ∧ Below w.heap.size w wr)) (fun i _ _ => M.length - (intOf i).toNat)
    case atStart => exact ⟨0, Nat.zero_le _, rfl, Hst⟩
    case round =>
      obtain ⟨j, hj, rfl, HR⟩ := hrel
      clear Hst
      by_cases hlt : j < M.length
      · obtain ⟨b, off, e, hmv⟩ : ∃ b off, some x = some ⟨b, off, none⟩ ∧ Mvs wr b off M := by
          rcases HM.out.below HR.out.2.2 with h | h
          · rw [h] at hlt; simp at hlt
          · exact h
        cases e
        obtain ⟨c0, c1, c2, c3, c4⟩ := hmv j hlt
        obtain ⟨r1, r2, r3⟩ := HR.out
        obtain ⟨v0, g0⟩ := r2.cell (j * 5) (by omega)
        obtain ⟨v1, g1⟩ := r2.cell (j * 5 + 1) (by omega)
        obtain ⟨v2, g2⟩ := r2.cell (j * 5 + 2) (by omega)
        obtain ⟨v3, g3⟩ := r2.cell (j * 5 + 3) (by omega)
        obtain ⟨v4, g4⟩ := r2.cell (j * 5 + 4) (by omega)
        have f0 := r2.free (j * 5) (by omega)
        have f1 := r2.free (j * 5 + 1) (by omega)
        have f2 := r2.free (j * 5 + 2) (by omega)
        have f3 := r2.free (j * 5 + 3) (by omega)
        have f4 := r2.free (j * 5 + 4) (by omega)
        have bG : w.heap.size < wr.heap.size := r2.lt (by omega)
        have HN : Hid (Row ((stores wr w.heap.size (j * 5) (mvCells (M[j]'hlt))).alloc (.cells (mvCells (M[j]'hlt)).toArray 51)) w.heap.size 0 ((M.take (j + 1)).flatMap mvCells) ∧ Room ((stores wr w.heap.size (j * 5) (mvCells (M[j]'hlt))).alloc (.cells (mvCells (M[j]'hlt)).toArray 51)) w.heap.size (M.length * 5) ∧ Below w.heap.size w ((stores wr w.heap.size (j * 5) (mvCells (M[j]'hlt))).alloc (.cells (mvCells (M[j]'hlt)).toArray 51))) := by
          have hz := stores_size w.heap.size (mvCells (M[j]'hlt)) wr (j * 5)
          have hb := below_alloc (stores wr w.heap.size (j * 5) (mvCells (M[j]'hlt))) (.cells (mvCells (M[j]'hlt)).toArray 51)
          exact ⟨(fill_step (by omega) mvCells_length hlt r2 (Nat.le_refl _) r1).below hb (by omega), (stores_room _ _ _ _ _ r2).below hb (by omega), (stores_below (Nat.le_refl _) _ _ _ r3).trans (hb.mono (by omega))⟩
        clear r1 r2 r3 hmv HR
        go_wp2
        go_roundw
        case rel => exact ⟨j + 1, by omega, by go_num, HN⟩
        case measure => simp [intOf]; omega
      · have HF : Hid (OwnMvs wr w.heap.size (some ⟨w.heap.size, 0, none⟩) M ∧ Below w.heap.size w wr) := by
          obtain ⟨r1, r2, r3⟩ := HR.out
          rw [List.take_of_length_le (by omega)] at r1
          exact ⟨.inr ⟨_, rfl, Nat.le_refl _, r1⟩, r3⟩
        clear HR
        go_wp2
        go_ret
        exact ⟨_, rfl, HF.out.1, HF.out.2⟩

end Go.Proofs.Qxb6619502a
