/-
  zzAdd, and the count of bytes of a put-back's arguments.
-/
import Derived.Test.Qxb6619502aMaps
namespace Go.Proofs.Qxb6619502a
open Go.RowKit

theorem ret_int {k : IntKind} {a b : Int} (h : a = b) : Ending.returned (.int k a) = .returned (.int k b) := by rw [h]

/-- zzAdd as plain arithmetic. -/
def addB (t n : Int) : Int := if t < 0 ∨ 1048576 - t < n then -1 else t + n

theorem addB_range (t n : Int) (h : t ≤ 1048576) (hn : 0 ≤ n) : -1 ≤ addB t n ∧ addB t n ≤ 1048576 ∧ (0 ≤ addB t n → 0 ≤ t ∧ n ≤ 1048576) := by
  unfold addB
  split
  · omega
  · omega

/-- zzAdd -/
theorem add19 (t n : Int) (w : World) (h0 : -1 ≤ t) (h1 : t ≤ 1048576) (hn : 0 ≤ n) (hn2 : n ≤ 9223372036854775807) :
    Calls Try.prog 19 #[.int .i64 t, .int .i64 n] w fun e w' => e = .returned (.int .i64 (addB t n)) ∧ w' = w := by
  by_cases ht : t < 0
  · have hr : Hid (addB t n = -1) := by unfold addB; exact if_pos (.inl ht)
    go_enter Try.func19, Try.ntmps19
    go_wp2
    go_ret
    exact ⟨ret_int hr.out.symm, rfl⟩
  · by_cases hlt : 1048576 - t < n
    · have hr : Hid (addB t n = -1) := by unfold addB; exact if_pos (.inr hlt)
      go_enter Try.func19, Try.ntmps19
      go_wp2
      go_ret
      exact ⟨ret_int hr.out.symm, rfl⟩
    · have hr : Hid (addB t n = t + n) := by unfold addB; exact if_neg (by omega)
      go_enter Try.func19, Try.ntmps19
      go_wp2
      go_ret
      exact ⟨ret_int hr.out.symm, rfl⟩

/-- A move. -/
structure Mv where
  name : ByteArray
  parent : ByteArray
  base : ByteArray
  head : ByteArray
  onto : ByteArray

/-- The moves M lie in block b from off on, five cells each. -/
def Mvs (w : World) (b off : Nat) (M : List Mv) : Prop :=
  ∀ j (h : j < M.length), w.cell? ⟨b, off + j * 5, none⟩ = some (.string (M[j]'h).name) ∧ w.cell? ⟨b, off + j * 5 + 1, none⟩ = some (.string (M[j]'h).parent) ∧ w.cell? ⟨b, off + j * 5 + 2, none⟩ = some (.string (M[j]'h).base) ∧
    w.cell? ⟨b, off + j * 5 + 3, none⟩ = some (.string (M[j]'h).head) ∧ w.cell? ⟨b, off + j * 5 + 4, none⟩ = some (.string (M[j]'h).onto)

/-- The strings R lie in block b from off on. -/
def Strs (w : World) (b off : Nat) (R : List ByteArray) : Prop := ∀ j (h : j < R.length), w.cell? ⟨b, off + j, none⟩ = some (.string (R[j]'h))

/-- A slice of moves: empty, or lying somewhere. -/
def IsMvs (w : World) (a : Option Addr) (M : List Mv) : Prop := M = [] ∨ ∃ b off, a = some ⟨b, off, none⟩ ∧ Mvs w b off M
def IsStrs (w : World) (a : Option Addr) (R : List ByteArray) : Prop := R = [] ∨ ∃ b off, a = some ⟨b, off, none⟩ ∧ Strs w b off R

theorem bel_cell {B : Nat} {w w' : World} (hb : Below B w w') {b : Nat} (h : b < B) (o : Nat) : w'.cell? ⟨b, o, none⟩ = w.cell? ⟨b, o, none⟩ := hb.cell (p := ⟨b, o, none⟩) h
theorem bel_frozen {B : Nat} {w w' : World} (hb : Below B w w') {b : Nat} (h : b < B) (o : Nat) : w'.frozen? ⟨b, o, none⟩ = w.frozen? ⟨b, o, none⟩ := hb.frozen (p := ⟨b, o, none⟩) h
theorem below_alloc (w : World) (o : Obj) : Below w.heap.size w (w.alloc o) := (Below.refl _ _).alloc (Nat.le_refl _) _

theorem Mvs.lt {w : World} {b off : Nat} {M : List Mv} (h : Mvs w b off M) (hn : 0 < M.length) : b < w.heap.size := World.block_lt_of_cell? w _ (h 0 hn).1
theorem Strs.lt {w : World} {b off : Nat} {R : List ByteArray} (h : Strs w b off R) (hn : 0 < R.length) : b < w.heap.size := World.block_lt_of_cell? w _ (h 0 hn)
theorem Mvs.below {B : Nat} {w w' : World} {b off : Nat} {M : List Mv} (h : Mvs w b off M) (hb : Below B w w') (hlt : b < B) : Mvs w' b off M := by
  intro j hj
  obtain ⟨c0, c1, c2, c3, c4⟩ := h j hj
  exact ⟨(bel_cell hb hlt _).trans c0, (bel_cell hb hlt _).trans c1, (bel_cell hb hlt _).trans c2, (bel_cell hb hlt _).trans c3, (bel_cell hb hlt _).trans c4⟩
theorem Strs.below {B : Nat} {w w' : World} {b off : Nat} {R : List ByteArray} (h : Strs w b off R) (hb : Below B w w') (hlt : b < B) : Strs w' b off R :=
  fun j hj => (bel_cell hb hlt _).trans (h j hj)
theorem IsMvs.below {w w' : World} {a : Option Addr} {M : List Mv} (h : IsMvs w a M) (hb : Below w.heap.size w w') : IsMvs w' a M := by
  rcases h with h | ⟨b, off, rfl, hm⟩
  · exact .inl h
  · by_cases hn : 0 < M.length
    · exact .inr ⟨b, off, rfl, hm.below hb (hm.lt hn)⟩
    · exact .inl (List.eq_nil_of_length_eq_zero (by omega))
theorem IsStrs.below {w w' : World} {a : Option Addr} {R : List ByteArray} (h : IsStrs w a R) (hb : Below w.heap.size w w') : IsStrs w' a R := by
  rcases h with h | ⟨b, off, rfl, hm⟩
  · exact .inl h
  · by_cases hn : 0 < R.length
    · exact .inr ⟨b, off, rfl, hm.below hb (hm.lt hn)⟩
    · exact .inl (List.eq_nil_of_length_eq_zero (by omega))

/-- It answers a number; where it is not negative every text is short. -/
def Short (trunk tf : ByteArray) (M : List Mv) (R : List ByteArray) : Prop :=
  trunk.size ≤ 1048576 ∧ tf.size ≤ 1048576 ∧ (∀ m ∈ M, m.name.size ≤ 1048576) ∧ ∀ r ∈ R, r.size ≤ 1048576
def Counts (trunk tf : ByteArray) (M : List Mv) (R : List ByteArray) (e : Ending) : Prop := ∃ r : Int, e = .returned (.int .i64 r) ∧ -1 ≤ r ∧ r ≤ 1048576 ∧ (0 ≤ r → Short trunk tf M R)

theorem Counts.no {trunk tf : ByteArray} {M : List Mv} {R : List ByteArray} {e : Ending} {r : Int} (h : e = .returned (.int .i64 r)) (hr : r = -1) : Counts trunk tf M R e := ⟨r, h, by omega, by omega, fun h => by omega⟩

/-- How far the sum has come: where it is not negative the first j moves' names are short. -/
def SoFar (M : List Mv) (j : Nat) (r : Int) : Prop := -1 ≤ r ∧ r ≤ 1048576 ∧ (0 ≤ r → ∀ i (h : i < M.length), i < j → (M[i]'h).name.size ≤ 1048576)
def SoFarR (R : List ByteArray) (j : Nat) (r : Int) : Prop := -1 ≤ r ∧ r ≤ 1048576 ∧ (0 ≤ r → ∀ i (h : i < R.length), i < j → (R[i]'h).size ≤ 1048576)

set_option maxHeartbeats 1000000 in
/-- zzPutBackBytes -/
theorem bytes14 (trunk tf : ByteArray) (am ar : Option Addr) (cm cr : Nat) (M : List Mv) (R : List ByteArray) (w : World) (hM : IsMvs w am M) (hR : IsStrs w ar R) (hm : M.length ≤ 4096) (hr : R.length ≤ 4096)
    (z1 : trunk.size ≤ maxLen) (z2 : tf.size ≤ maxLen) (zm : ∀ m ∈ M, m.name.size ≤ maxLen ∧ m.parent.size ≤ maxLen ∧ m.base.size ≤ maxLen ∧ m.head.size ≤ maxLen ∧ m.onto.size ≤ maxLen) (zr : ∀ r ∈ R, r.size ≤ maxLen) :
    Calls Try.prog 14 #[.string trunk, .slice am M.length cm, .string tf, .slice ar R.length cr] w fun e w' => Counts trunk tf M R e ∧ Below w.heap.size w w' := by
  unfold maxLen at z1 z2 zm zr
  have HM : Hid (IsMvs w am M) := hM
  have HR : Hid (IsStrs w ar R) := hR
  have ZM : Hid (∀ m ∈ M, m.name.size ≤ 2 ^ 63 - 1 ∧ m.parent.size ≤ 2 ^ 63 - 1 ∧ m.base.size ≤ 2 ^ 63 - 1 ∧ m.head.size ≤ 2 ^ 63 - 1 ∧ m.onto.size ≤ 2 ^ 63 - 1) := zm
  have ZR : Hid (∀ r ∈ R, r.size ≤ 2 ^ 63 - 1) := zr
  clear hM hR zm zr
  have r1 := addB_range 0 trunk.size (by omega) (by omega)
  have r2 := addB_range (addB 0 trunk.size) tf.size r1.2.1 (by omega)
  have HS : Hid (0 ≤ addB (addB 0 trunk.size) tf.size → trunk.size ≤ 1048576 ∧ tf.size ≤ 1048576) := by
    intro h
    have h2 := r2.2.2 h
    have h1 := r1.2.2 h2.1
    omega
  obtain ⟨r1a, r1b, -⟩ := r1
  obtain ⟨r2a, r2b, -⟩ := r2
  go_enter Try.func14, Try.ntmps14
  go_wp2_with fail
  refine (add19 0 _ _ (by omega) (by omega) (by omega) (by omega)).mono ?_
  rintro e w1 ⟨rfl, rfl⟩
  generalize addB 0 trunk.size = t1 at *
  go_wp2_with fail
  refine (add19 t1 _ _ (by omega) (by omega) (by omega) (by omega)).mono ?_
  rintro e w2 ⟨rfl, rfl⟩
  generalize addB t1 tf.size = t2 at *
  by_cases ht : t2 < 0
  · go_wp2
    go_ret
    exact ⟨.no rfl rfl, Below.refl _ _⟩
  · have HS2 : Hid (trunk.size ≤ 1048576 ∧ tf.size ≤ 1048576) := HS.out (by omega)
    clear HS
    have ht0 : 0 ≤ t2 := by omega
    go_wp2_with fail
    go_loopw [9, 10, 11] (fun t i _ wr => ∃ (j : Nat) (r : Int), j ≤ M.length ∧ i = .int .i64 j ∧ t = .int .i64 r ∧ 0 ≤ r ∧ r ≤ 1048576 ∧ Hid (SoFar M j r) ∧ Below w2.heap.size w2 wr) (fun _ i _ _ => M.length - (intOf i).toNat)
    case atStart => exact ⟨0, t2, Nat.zero_le _, rfl, rfl, by omega, by omega, ⟨by omega, by omega, fun _ i h hi => by omega⟩, Below.refl _ _⟩
    case round =>
      obtain ⟨j, r, hj, rfl, rfl, hr0, hr1, hso, hbel⟩ := hrel
      by_cases hlt : j < M.length
      · obtain ⟨b, off, rfl, hmv⟩ : ∃ b off, am = some ⟨b, off, none⟩ ∧ Mvs wr b off M := by
          rcases HM.out.below hbel with h | h
          · rw [h] at hlt; simp at hlt
          · exact h
        obtain ⟨c0, c1, c2, c3, c4⟩ := hmv j hlt
        have zz := ZM.out (M[j]'hlt) (List.getElem_mem _)
        have Hn : Hid ((M[j]'hlt).name.size = (M[j]'hlt).name.size) := rfl
        clear hmv
        generalize hm0 : (M[j]'hlt) = m at *
        have Hm0 : Hid ((M[j]'hlt) = m) := hm0
        clear hm0 Hn
        obtain ⟨zz0, zz1, zz2, zz3, zz4⟩ := zz
        have q1 := addB_range r m.name.size hr1 (by omega)
        have q2 := addB_range (addB r m.name.size) m.parent.size q1.2.1 (by omega)
        have q3 := addB_range (addB (addB r m.name.size) m.parent.size) m.base.size q2.2.1 (by omega)
        have q4 := addB_range (addB (addB (addB r m.name.size) m.parent.size) m.base.size) m.head.size q3.2.1 (by omega)
        have q5 := addB_range (addB (addB (addB (addB r m.name.size) m.parent.size) m.base.size) m.head.size) m.onto.size q4.2.1 (by omega)
        have Hq : Hid (0 ≤ addB (addB (addB (addB (addB r m.name.size) m.parent.size) m.base.size) m.head.size) m.onto.size → m.name.size ≤ 1048576) := by
          intro h
          have := (q1.2.2 (q2.2.2 (q3.2.2 (q4.2.2 (q5.2.2 h).1).1).1).1).2
          omega
        obtain ⟨q1a, q1b, -⟩ := q1
        obtain ⟨q2a, q2b, -⟩ := q2
        obtain ⟨q3a, q3b, -⟩ := q3
        obtain ⟨q4a, q4b, -⟩ := q4
        obtain ⟨q5a, q5b, -⟩ := q5
        go_wp2_with fail
        refine (add19 r _ _ (by omega) (by omega) (by omega) (by omega)).mono ?_
        rintro e w3 ⟨rfl, rfl⟩
        generalize addB r m.name.size = t3 at *
        go_wp2_with fail
        refine (add19 t3 _ _ (by omega) (by omega) (by omega) (by omega)).mono ?_
        rintro e w3 ⟨rfl, rfl⟩
        generalize addB t3 m.parent.size = t4 at *
        go_wp2_with fail
        refine (add19 t4 _ _ (by omega) (by omega) (by omega) (by omega)).mono ?_
        rintro e w3 ⟨rfl, rfl⟩
        generalize addB t4 m.base.size = t5 at *
        go_wp2_with fail
        refine (add19 t5 _ _ (by omega) (by omega) (by omega) (by omega)).mono ?_
        rintro e w3 ⟨rfl, rfl⟩
        generalize addB t5 m.head.size = t6 at *
        go_wp2_with fail
        refine (add19 t6 _ _ (by omega) (by omega) (by omega) (by omega)).mono ?_
        rintro e w3 ⟨rfl, rfl⟩
        generalize addB t6 m.onto.size = t7 at *
        by_cases h7 : t7 < 0
        · go_wp2
          go_ret
          exact ⟨.no rfl rfl, hbel.alloc hbel.size _⟩
        · have hso2 : Hid (SoFar M (j + 1) t7) := by
            refine ⟨by omega, by omega, fun _ i h hi => ?_⟩
            by_cases e : i = j
            · subst e; rw [Hm0.out]; exact Hq.out (by omega)
            · exact hso.out.2.2 (by omega) i h (by omega)
          go_wp2
          go_roundw
          case rel => exact ⟨j + 1, t7, by omega, by go_num, rfl, by omega, by omega, hso2, hbel.alloc hbel.size _⟩
          case measure => simp [intOf]; omega
      · have HMs : Hid (∀ m ∈ M, m.name.size ≤ 1048576) := by
          intro m hm
          obtain ⟨i, hi, rfl⟩ := List.getElem_of_mem hm
          exact hso.out.2.2 (by omega) i hi (by omega)
        clear hso
        go_wp2_with fail
        go_loop [9, 12] (fun t i => ∃ (j : Nat) (r : Int), j ≤ R.length ∧ i = .int .i64 j ∧ t = .int .i64 r ∧ 0 ≤ r ∧ r ≤ 1048576 ∧ Hid (SoFarR R j r)) (fun _ i => R.length - (intOf i).toNat)
        case atStart => exact ⟨0, r, Nat.zero_le _, rfl, rfl, by omega, by omega, ⟨by omega, by omega, fun _ i h hi => by omega⟩⟩
        case round =>
          obtain ⟨j2, r', hj2, rfl, rfl, hr0', hr1', hso⟩ := hrel
          by_cases hlt2 : j2 < R.length
          · obtain ⟨b, off, rfl, hmv⟩ : ∃ b off, ar = some ⟨b, off, none⟩ ∧ Strs wr b off R := by
              rcases HR.out.below hbel with h | h
              · rw [h] at hlt2; simp at hlt2
              · exact h
            have c0 := hmv j2 hlt2
            have zz := ZR.out (R[j2]'hlt2) (List.getElem_mem _)
            clear hmv
            generalize hm0 : (R[j2]'hlt2) = m at *
            have Hm0 : Hid ((R[j2]'hlt2) = m) := hm0
            clear hm0
            have q1 := addB_range r' 16 hr1' (by omega)
            have q2 := addB_range (addB r' 16) m.size q1.2.1 (by omega)
            have Hq : Hid (0 ≤ addB (addB r' 16) m.size → m.size ≤ 1048576) := by
              intro h
              have := (q2.2.2 h).2
              omega
            obtain ⟨q1a, q1b, -⟩ := q1
            obtain ⟨q2a, q2b, -⟩ := q2
            go_wp2_with fail
            refine (add19 r' _ _ (by omega) (by omega) (by omega) (by omega)).mono ?_
            rintro e w3 ⟨rfl, rfl⟩
            generalize addB r' 16 = t3 at *
            go_wp2_with fail
            refine (add19 t3 _ _ (by omega) (by omega) (by omega) (by omega)).mono ?_
            rintro e w3 ⟨rfl, rfl⟩
            generalize addB t3 m.size = t4 at *
            by_cases h7 : t4 < 0
            · go_wp2
              go_ret
              exact ⟨.no rfl rfl, hbel⟩
            · have hso2 : Hid (SoFarR R (j2 + 1) t4) := by
                refine ⟨by omega, by omega, fun _ i h hi => ?_⟩
                by_cases e : i = j2
                · subst e; rw [Hm0.out]; exact Hq.out (by omega)
                · exact hso.out.2.2 (by omega) i h (by omega)
              go_wp2
              go_round
              case rel => exact ⟨j2 + 1, t4, by omega, by go_num, rfl, by omega, by omega, hso2⟩
              case measure => simp [intOf]; omega
          · have HRs : Hid (∀ m ∈ R, m.size ≤ 1048576) := by
              intro m hm
              obtain ⟨i, hi, rfl⟩ := List.getElem_of_mem hm
              exact hso.out.2.2 (by omega) i hi (by omega)
            clear hso
            go_wp2
            go_ret
            exact ⟨⟨r', rfl, by omega, hr1', fun _ => ⟨HS2.out.1, HS2.out.2, HMs.out, HRs.out⟩⟩, hbel⟩

end Go.Proofs.Qxb6619502a
