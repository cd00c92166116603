/-
  ZZOperationPutBack.
-/
import Derived.Test.Qxb6619502aPutOp
namespace Go.Proofs.Qxb6619502a
open Go.RowKit

theorem Try.info57 : (Try.prog.info? 57).map (fun i => (i.zero, i.size, i.bytes)) = some (some (.agg #[.string ⟨#[]⟩, .string ⟨#[]⟩, .string ⟨#[]⟩, .string ⟨#[]⟩, .string ⟨#[]⟩]), 5, 80) := by kernel_rfl

theorem neqnil44 (w : World) (a : Option Addr) (l c : Nat) : (binOp .neq 44 (.slice a l c) (.slice none 0 0)).run Try.prog w = .ok (.bool (!a.isNone)) w :=
  run_neq_slice_nil (P := Try.prog) w 44 54 a l c Try.underlying44

theorem own_base {w : World} {B B' : Nat} {v : Value} {n : Nat} {xs : List Value} {e : TypeId} {sz : Nat} (h : w.ownsRow B e sz v n xs) (hB : B' ≤ B) : w.ownsRow B' e sz v n xs := by
  obtain ⟨h1, h2⟩ := h
  refine ⟨h1, ?_⟩
  rcases h2 with h2 | ⟨g, cap, cur, hv, hg, r⟩
  · exact .inl h2
  · exact .inr ⟨g, cap, cur, hv, Nat.le_trans hB hg, r⟩

theorem IsMvs.of_row {w : World} {g : Nat} {M : List Mv} (h : Row w g 0 (M.flatMap mvCells)) : IsMvs w (some ⟨g, 0, none⟩) M := .inr ⟨g, 0, rfl, Mvs.iff.2 h⟩

set_option maxHeartbeats 1000000 in
/-- ZZOperationPutBack -/
theorem put18 (mr mh : Option Nat) (am ar : Option Addr) (cr : Nat) (tf trunk : ByteArray) (M : List Mv) (R : List ByteArray) (Lr Lh : List (ByteArray × ByteArray)) (w : World)
    (hM : IsMvs w am M) (hnil : am = none → M = []) (hR : IsStrs w ar R) (hr : IsMap w mr Lr) (hh : IsMap w mh Lh) (hm : M.length ≤ 4096) (hrl : R.length ≤ 4096) (hz : Short trunk tf M R) :
    Calls Try.prog 18 #[.string tf, .map mr, .slice am M.length M.length, .slice ar R.length cr, .string trunk, .map mh] w fun e w' => ∃ v, e = .returned v ∧
      w'.ownsRow w.heap.size 49 3 v (allU (get Lh) (get Lr) tf trunk M R).length ((allU (get Lh) (get Lr) tf trunk M R).flatMap updCells) ∧ Below w.heap.size w w' := by
  have HM : Hid (IsMvs w am M) := hM
  have HRS : Hid (IsStrs w ar R) := hR
  have HR : Hid (IsMap w mr Lr) := hr
  have HH : Hid (IsMap w mh Lh) := hh
  have HZ : Hid (Short trunk tf M R) := hz
  clear hM hR hr hh hz
  have hne := neqnil44 w am M.length M.length
  -- what follows the copy
  have tail : Hid (∀ (w2 : World) (a2 : Option Addr) (P : Nat), Below w.heap.size w w2 → IsMvs w2 a2 M → w.heap.size ≤ w2.heap.size →
      w2.cell? ⟨P, 5, none⟩ = some (.map mr) → w2.cell? ⟨P, 6, none⟩ = some (.slice a2 M.length M.length) → w2.cell? ⟨P, 11, none⟩ = some (.string tf) → w2.cell? ⟨P, 12, none⟩ = some (.slice ar R.length cr) →
      Calls Try.prog 21 #[.pointer (some ⟨P, 0, none⟩), .string trunk, .map mh] w2 fun e w' => ∃ v, e = .returned v ∧
        w'.ownsRow w.heap.size 49 3 v (allU (get Lh) (get Lr) tf trunk M R).length ((allU (get Lh) (get Lr) tf trunk M R).flatMap updCells) ∧ Below w.heap.size w w') := by
    intro w2 a2 P hb h2 hsz p5 p6 p11 p12
    refine (put21 P mr mh a2 ar cr tf trunk M R Lr Lh w2 p5 p6 p11 p12 h2 (HRS.out.below hb) (HR.out.below hb HR.out.lt) (HH.out.below hb HH.out.lt) hm hrl HZ.out).mono ?_
    rintro e w' ⟨v, rfl, ho, hb2⟩
    exact ⟨v, rfl, own_base ho hsz, hb.trans (hb2.mono hsz)⟩
  cases am with
  | none =>
    obtain rfl := hnil rfl
    clear hnil hne
    have hne := neqnil44 w none 0 0
    go_enter Try.func18, Try.ntmps18
    go_wp2_with fail
    refine (tail.out _ none w.heap.size (below_alloc _ _) (.inl rfl) (by simp) (by simp) (by simp) (by simp) (by simp)).mono ?_
    rintro e w' ⟨v, rfl, ho, hb⟩
    have HO : Hid (w'.ownsRow w.heap.size 49 3 v (allU (get Lh) (get Lr) tf trunk [] R).length ((allU (get Lh) (get Lr) tf trunk [] R).flatMap updCells)) := ho
    clear ho
    go_wp2
    go_ret
    exact ⟨_, rfl, HO.out, hb⟩
  | some x =>
    clear hnil
    obtain ⟨i0, hi, hz0, hz1, hz2⟩ := info_parts Try.info57
    have hmake := run_make (P := Try.prog) w 55 57 i0 _ Try.underlying55 hi hz0 .i64 .i64 (M.length : Int) (M.length : Int) (by omega) (by omega) (by rw [hz2]; omega) (by omega)
    rw [hz1, Int.toNat_natCast] at hmake
    have HC0 := size_madeCells (Value.agg #[.string ⟨#[]⟩, .string ⟨#[]⟩, .string ⟨#[]⟩, .string ⟨#[]⟩, .string ⟨#[]⟩]).cells (M.length * 5)
    generalize madeCells _ (M.length * 5) = C at hmake HC0
    have HC : Hid (C.size = M.length * 5) := HC0
    clear HC0 hz0 hz1 hz2 hi
    have Hst : Hid (Row (w.alloc (.cells C 57)) w.heap.size 0 ((M.take 0).flatMap mvCells) ∧ Room (w.alloc (.cells C 57)) w.heap.size (M.length * 5) ∧ Below w.heap.size w (w.alloc (.cells C 57))) :=
      ⟨by simpa using Row.nil _ _ _, Room.made w C 57 _ HC.out, below_alloc w _⟩
    go_enter Try.func18, Try.ntmps18
    go_wp2_with fail
    go_loopw [14] (fun i wr => ∃ j : Nat, j ≤ M.length ∧ i = .int .i64 j ∧ w.heap.size + 1 ≤ wr.heap.size ∧ Hid (Row wr w.heap.size 0 ((M.take j).flatMap mvCells) ∧ Room wr w.heap.size (M.length * 5) ∧ Below w.heap.size w wr)) (fun i _ => M.length - (intOf i).toNat)
    case atStart => exact ⟨0, Nat.zero_le _, rfl, by simp, Hst⟩
    case round =>
      obtain ⟨j, hj, rfl, hsz, HRR⟩ := hrel
      clear Hst hmake hne
      by_cases hlt : j < M.length
      · obtain ⟨b, off, e, hmv⟩ : ∃ b off, some x = some ⟨b, off, none⟩ ∧ Mvs wr b off M := by
          rcases HM.out.below HRR.out.2.2 with h | h
          · rw [h] at hlt; simp at hlt
          · exact h
        cases e
        obtain ⟨c0, c1, c2, c3, c4⟩ := hmv j hlt
        obtain ⟨r1, r2, r3⟩ := HRR.out
        obtain ⟨v0, g0⟩ := r2.cell (j * 5) (by omega)
        obtain ⟨v1, g1⟩ := r2.cell (j * 5 + 1) (by omega)
        obtain ⟨v2, g2⟩ := r2.cell (j * 5 + 2) (by omega)
        obtain ⟨v3, g3⟩ := r2.cell (j * 5 + 3) (by omega)
        obtain ⟨v4, g4⟩ := r2.cell (j * 5 + 4) (by omega)
        have f0 := r2.free (j * 5) (by omega)
        have f1 := r2.free (j * 5 + 1) (by omega)
        have f2 := r2.free (j * 5 + 2) (by omega)
        have f3 := r2.free (j * 5 + 3) (by omega)
        have f4 := r2.free (j * 5 + 4) (by omega)
        have hzs := stores_size w.heap.size (mvCells (M[j]'hlt)) wr (j * 5)
        have HN : Hid (w.heap.size + 1 ≤ (stores wr w.heap.size (j * 5) (mvCells (M[j]'hlt))).heap.size ∧ (Row (stores wr w.heap.size (j * 5) (mvCells (M[j]'hlt))) w.heap.size 0 ((M.take (j + 1)).flatMap mvCells) ∧ Room (stores wr w.heap.size (j * 5) (mvCells (M[j]'hlt))) w.heap.size (M.length * 5) ∧ Below w.heap.size w (stores wr w.heap.size (j * 5) (mvCells (M[j]'hlt))))) :=
          ⟨by omega, fill_step (by omega) mvCells_length hlt r2 (Nat.le_refl _) r1, stores_room _ _ _ _ _ r2, stores_below (Nat.le_refl _) _ _ _ r3⟩
        clear r1 r2 r3 hmv HRR hzs
        go_wp2
        go_roundw
        case rel => exact ⟨j + 1, by omega, by go_num, HN.out.1, HN.out.2⟩
        case measure => simp [intOf]; omega
      · have HF : Hid (IsMvs wr (some ⟨w.heap.size, 0, none⟩) M ∧ Below w.heap.size w wr) := by
          obtain ⟨r1, r2, r3⟩ := HRR.out
          rw [List.take_of_length_le (by omega)] at r1
          exact ⟨IsMvs.of_row r1, r3⟩
        clear HRR
        go_wp2_with fail
        refine (tail.out _ (some ⟨w.heap.size, 0, none⟩) wr.heap.size (HF.out.2.trans ((below_alloc _ _).mono HF.out.2.size)) (HF.out.1.below (below_alloc _ _)) (by simp; omega) (by simp) (by simp) (by simp) (by simp)).mono ?_
        rintro e w' ⟨v, rfl, ho, hb⟩
        have HO : Hid (w'.ownsRow w.heap.size 49 3 v (allU (get Lh) (get Lr) tf trunk M R).length ((allU (get Lh) (get Lr) tf trunk M R).flatMap updCells)) := ho
        clear ho
        go_wp2
        go_ret
        exact ⟨_, rfl, HO.out, hb⟩

end Go.Proofs.Qxb6619502a
