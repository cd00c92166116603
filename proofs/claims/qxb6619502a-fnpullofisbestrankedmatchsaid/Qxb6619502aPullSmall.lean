/-
  zzSamePull, zzPullBytes, zzPullOfBytes, zzForgePulls.
-/
import Derived.Test.Qxb6619502aPull
import Derived.Deep.RegionHeld3
namespace Go.Proofs.Qxb6619502a
open Go.RowKit

/-- zzForgePull, written out. -/
theorem pull13u (p : Pl) (w : World) : Calls Try.prog 13 #[.agg #[.int .i64 p.num, .string p.title, .string p.state, .bool p.merged, .string p.head, .string p.hsha, .string p.base, .string p.msha, .string p.url, .int .i64 p.stack]] w fun e w' => e = .returned (.agg #[.int .i64 p.num, .string p.title, .string p.state, .bool p.merged, .string p.head, .string p.hsha, .string p.base, .string p.msha, .string p.url, .int .i64 p.stack]) ∧ w' = (w.alloc (.cells #[.int .i64 p.num, .string p.title, .string p.state, .bool p.merged, .string p.head, .string p.hsha, .string p.base, .string p.msha, .string p.url, .int .i64 p.stack] 33)).alloc (.cells #[.int .i64 p.num, .string p.title, .string p.state, .bool p.merged, .string p.head, .string p.hsha, .string p.base, .string p.msha, .string p.url, .int .i64 p.stack] 28) := pull13 p w

/-- It answers yes or no; of alike pulls yes. -/
def Sames (p q : Pl) (e : Ending) : Prop := ∃ b : Bool, e = .returned (.bool b) ∧ (p = q → b = true)

/-- What it leaves. -/
def sameW (p q : Pl) (w : World) : World := ((((w.alloc (.cells #[.int .i64 p.num, .string p.title, .string p.state, .bool p.merged, .string p.head, .string p.hsha, .string p.base, .string p.msha, .string p.url, .int .i64 p.stack] 28)).alloc (.cells #[.int .i64 q.num, .string q.title, .string q.state, .bool q.merged, .string q.head, .string q.hsha, .string q.base, .string q.msha, .string q.url, .int .i64 q.stack] 33)).alloc (.cells #[.int .i64 q.num, .string q.title, .string q.state, .bool q.merged, .string q.head, .string q.hsha, .string q.base, .string q.msha, .string q.url, .int .i64 q.stack] 33)).alloc (.cells #[.int .i64 q.num, .string q.title, .string q.state, .bool q.merged, .string q.head, .string q.hsha, .string q.base, .string q.msha, .string q.url, .int .i64 q.stack] 28)).drew

theorem sameW_below (p q : Pl) (w : World) : Below w.heap.size w (sameW p q w) := ((((below_alloc w _).alloc (by simp) _).alloc (by simp; omega) _).alloc (by simp; omega) _).drew

set_option maxHeartbeats 1000000 in
/-- zzSamePull -/
theorem same10 (p q : Pl) (w : World) : Calls Try.prog 10 #[plV p, plV q] w fun e w' => Sames p q e ∧ w' = sameW p q w := by
  obtain ⟨b, hb, hpq⟩ := eql28 p q
  have HPQ : Hid (p = q → b = true) := hpq
  clear hpq
  unfold plV at hb ⊢
  go_enter Try.func10, Try.ntmps10
  go_upto_region 1 with fail
  obtain ⟨W, hW⟩ : ∃ W, W = (w.alloc (.cells #[.int .i64 p.num, .string p.title, .string p.state, .bool p.merged, .string p.head, .string p.hsha, .string p.base, .string p.msha, .string p.url, .int .i64 p.stack] 28)).alloc (.cells #[.int .i64 q.num, .string q.title, .string q.state, .bool q.merged, .string q.head, .string q.hsha, .string q.base, .string q.msha, .string q.url, .int .i64 q.stack] 33) := ⟨_, rfl⟩
  rw [← hW]
  have HBW : Hid (W = (w.alloc (.cells #[.int .i64 p.num, .string p.title, .string p.state, .bool p.merged, .string p.head, .string p.hsha, .string p.base, .string p.msha, .string p.url, .int .i64 p.stack] 28)).alloc (.cells #[.int .i64 q.num, .string q.title, .string q.state, .bool q.merged, .string q.head, .string q.hsha, .string q.base, .string q.msha, .string q.url, .int .i64 q.stack] 33)) := hW
  have hp : PlAt W w.heap.size 0 p := by rw [hW]; unfold PlAt; simp
  have hq : PlAt W (w.heap.size + 1) 0 q := by rw [hW]; unfold PlAt; simp
  have hsz : W.heap.size = w.heap.size + 1 + 1 := by rw [hW]; simp
  clear hW
  unfold PlAt at hp hq
  simp only [Nat.zero_add] at hp hq
  obtain ⟨p0, p1, p2, p3, p4, p5, p6, p7, p8, p9⟩ := hp
  obtain ⟨q0, q1, q2, q3, q4, q5, q6, q7, q8, q9⟩ := hq
  generalize hV : w.heap.size = V at *
  have HV : Hid (w.heap.size = V) := hV
  clear hV
  have l1 : V < W.heap.size := by omega
  have l2 : V < W.heap.size + 1 := by omega
  have l3 : V + 1 < W.heap.size := by omega
  have l4 : V + 1 < W.heap.size + 1 := by omega
  clear hsz
  generalize V + 1 = V1 at *
  go_region_held3 (fun w' => w'.cell? ⟨V, 0, none⟩ = some (.int .i64 p.num) ∧ w'.cell? ⟨V, 1, none⟩ = some (.string p.title) ∧ w'.cell? ⟨V, 2, none⟩ = some (.string p.state) ∧ w'.cell? ⟨V, 3, none⟩ = some (.bool p.merged) ∧ w'.cell? ⟨V, 4, none⟩ = some (.string p.head) ∧ w'.cell? ⟨V, 5, none⟩ = some (.string p.hsha) ∧ w'.cell? ⟨V, 6, none⟩ = some (.string p.base) ∧ w'.cell? ⟨V, 7, none⟩ = some (.string p.msha) ∧ w'.cell? ⟨V, 8, none⟩ = some (.string p.url) ∧ w'.cell? ⟨V, 9, none⟩ = some (.int .i64 p.stack) ∧ w'.cell? ⟨V1, 0, none⟩ = some (.int .i64 q.num) ∧ w'.cell? ⟨V1, 1, none⟩ = some (.string q.title) ∧ w'.cell? ⟨V1, 2, none⟩ = some (.string q.state) ∧ w'.cell? ⟨V1, 3, none⟩ = some (.bool q.merged) ∧ w'.cell? ⟨V1, 4, none⟩ = some (.string q.head) ∧ w'.cell? ⟨V1, 5, none⟩ = some (.string q.hsha) ∧ w'.cell? ⟨V1, 6, none⟩ = some (.string q.base) ∧ w'.cell? ⟨V1, 7, none⟩ = some (.string q.msha) ∧ w'.cell? ⟨V1, 8, none⟩ = some (.string q.url) ∧ w'.cell? ⟨V1, 9, none⟩ = some (.int .i64 q.stack)) (simp [*, World.cell?_alloc_past]) (first | (go_at_call 13; refine (pull13u q _).mono ?_; rintro e w' ⟨rfl, rfl⟩))
  go_wp2
  go_ret
  exact ⟨⟨b, rfl, HPQ.out⟩, by rw [HBW.out]; rfl⟩

def addRes (e : Ending) : Prop := ∃ r : Int, e = .returned (.int .i64 r) ∧ -1 ≤ r ∧ r ≤ 1048576

set_option maxHeartbeats 1000000 in
/-- zzPullBytes -/
theorem bytes12 (t : Int) (p : Pl) (w : World) (h0 : -1 ≤ t) (h1 : t ≤ 1048576) (hp : p.ok) : Calls Try.prog 12 #[.int .i64 t, plV p] w fun e w' => addRes e ∧ Below w.heap.size w w' := by
  obtain ⟨z1, z2, z3, z4, z5, z6, z7⟩ := hp
  unfold maxLen at z1 z2 z3 z4 z5 z6 z7
  unfold plV
  have HB : Hid (∀ o, Below w.heap.size w (w.alloc o)) := fun o => (Below.refl _ _).alloc (Nat.le_refl _) o
  have q1 := addB_range t 16 h1 (by omega)
  generalize hq1 : addB t 16 = t1 at *
  obtain ⟨a1, b1, -⟩ := q1
  have q2 := addB_range t1 p.title.size b1 (by omega)
  generalize hq2 : addB t1 p.title.size = t2 at *
  obtain ⟨a2, b2, -⟩ := q2
  have q3 := addB_range t2 p.state.size b2 (by omega)
  generalize hq3 : addB t2 p.state.size = t3 at *
  obtain ⟨a3, b3, -⟩ := q3
  have q4 := addB_range t3 p.head.size b3 (by omega)
  generalize hq4 : addB t3 p.head.size = t4 at *
  obtain ⟨a4, b4, -⟩ := q4
  have q5 := addB_range t4 p.hsha.size b4 (by omega)
  generalize hq5 : addB t4 p.hsha.size = t5 at *
  obtain ⟨a5, b5, -⟩ := q5
  have q6 := addB_range t5 p.base.size b5 (by omega)
  generalize hq6 : addB t5 p.base.size = t6 at *
  obtain ⟨a6, b6, -⟩ := q6
  have q7 := addB_range t6 p.msha.size b6 (by omega)
  generalize hq7 : addB t6 p.msha.size = t7 at *
  obtain ⟨a7, b7, -⟩ := q7
  have q8 := addB_range t7 p.url.size b7 (by omega)
  generalize hq8 : addB t7 p.url.size = t8 at *
  obtain ⟨a8, b8, -⟩ := q8
  go_enter Try.func12, Try.ntmps12
  go_wp2_with fail
  refine (add19 t 16 _ (by omega) (by omega) (by omega) (by omega)).mono ?_
  rintro e w2 ⟨rfl, rfl⟩
  rw [hq1]
  go_wp2_with fail
  refine (add19 t1 _ _ (by omega) (by omega) (by omega) (by omega)).mono ?_
  rintro e w2 ⟨rfl, rfl⟩
  rw [hq2]
  go_wp2_with fail
  refine (add19 t2 _ _ (by omega) (by omega) (by omega) (by omega)).mono ?_
  rintro e w2 ⟨rfl, rfl⟩
  rw [hq3]
  go_wp2_with fail
  refine (add19 t3 _ _ (by omega) (by omega) (by omega) (by omega)).mono ?_
  rintro e w2 ⟨rfl, rfl⟩
  rw [hq4]
  go_wp2_with fail
  refine (add19 t4 _ _ (by omega) (by omega) (by omega) (by omega)).mono ?_
  rintro e w2 ⟨rfl, rfl⟩
  rw [hq5]
  go_wp2_with fail
  refine (add19 t5 _ _ (by omega) (by omega) (by omega) (by omega)).mono ?_
  rintro e w2 ⟨rfl, rfl⟩
  rw [hq6]
  go_wp2_with fail
  refine (add19 t6 _ _ (by omega) (by omega) (by omega) (by omega)).mono ?_
  rintro e w2 ⟨rfl, rfl⟩
  rw [hq7]
  go_wp2_with fail
  refine (add19 t7 _ _ (by omega) (by omega) (by omega) (by omega)).mono ?_
  rintro e w2 ⟨rfl, rfl⟩
  rw [hq8]
  go_wp2
  go_ret
  exact ⟨⟨t8, rfl, by omega, by omega⟩, HB.out _⟩

/-- zzPullBytes, written out. -/
theorem bytes12u (t : Int) (p : Pl) (w : World) (h0 : -1 ≤ t) (h1 : t ≤ 1048576) (hp : p.ok) : Calls Try.prog 12 #[.int .i64 t, .agg #[.int .i64 p.num, .string p.title, .string p.state, .bool p.merged, .string p.head, .string p.hsha, .string p.base, .string p.msha, .string p.url, .int .i64 p.stack]] w fun e w' => addRes e ∧ Below w.heap.size w w' := bytes12 t p w h0 h1 hp

set_option maxHeartbeats 1000000 in
/-- zzPullOfBytes -/
theorem bytes7 (a : Option Addr) (c : Nat) (L : List Pl) (name parent base pushed : ByteArray) (w : World) (hL : IsPls w a L) (hl : L.length ≤ 4096) (hok : ∀ p ∈ L, p.ok)
    (z1 : name.size ≤ maxLen) (z2 : parent.size ≤ maxLen) (z3 : base.size ≤ maxLen) (z4 : pushed.size ≤ maxLen) :
    Calls Try.prog 7 #[.slice a L.length c, .string name, .string parent, .string base, .string pushed] w fun e w' => addRes e ∧ Below w.heap.size w w' := by
  unfold maxLen at z1 z2 z3 z4
  have HL : Hid (IsPls w a L) := hL
  have HOK : Hid (∀ p ∈ L, p.ok) := hok
  clear hL hok
  have q1 := addB_range 0 name.size (by omega) (by omega)
  generalize hq1 : addB 0 name.size = t1 at *
  obtain ⟨a1, b1, -⟩ := q1
  have q2 := addB_range t1 parent.size b1 (by omega)
  generalize hq2 : addB t1 parent.size = t2 at *
  obtain ⟨a2, b2, -⟩ := q2
  have q3 := addB_range t2 base.size b2 (by omega)
  generalize hq3 : addB t2 base.size = t3 at *
  obtain ⟨a3, b3, -⟩ := q3
  have q4 := addB_range t3 pushed.size b3 (by omega)
  generalize hq4 : addB t3 pushed.size = t4 at *
  obtain ⟨a4, b4, -⟩ := q4
  go_enter Try.func7, Try.ntmps7
  go_wp2_with fail
  refine (add19 0 _ _ (by omega) (by omega) (by omega) (by omega)).mono ?_
  rintro e w2 ⟨rfl, rfl⟩
  rw [hq1]
  go_wp2_with fail
  refine (add19 t1 _ _ (by omega) (by omega) (by omega) (by omega)).mono ?_
  rintro e w3 ⟨rfl, rfl⟩
  rw [hq2]
  go_wp2_with fail
  refine (add19 t2 _ _ (by omega) (by omega) (by omega) (by omega)).mono ?_
  rintro e w4 ⟨rfl, rfl⟩
  rw [hq3]
  go_wp2_with fail
  refine (add19 t3 _ _ (by omega) (by omega) (by omega) (by omega)).mono ?_
  rintro e w5 ⟨rfl, rfl⟩
  rw [hq4]
  clear hq1 hq2 hq3 hq4
  by_cases ht : t4 < 0
  · go_wp2
    go_ret
    exact ⟨⟨-1, rfl, by omega, by omega⟩, Below.refl _ _⟩
  · have ht0 : 0 ≤ t4 := by omega
    go_wp2_with fail
    go_loopw [11, 12] (fun t i wr => ∃ (j : Nat) (r : Int), j ≤ L.length ∧ i = .int .i64 j ∧ t = .int .i64 r ∧ 0 ≤ r ∧ r ≤ 1048576 ∧ Hid (Below w5.heap.size w5 wr)) (fun _ i _ => L.length - (intOf i).toNat)
    case atStart => exact ⟨0, t4, Nat.zero_le _, rfl, rfl, by omega, by omega, Below.refl _ _⟩
    case round =>
      obtain ⟨j, r, hj, rfl, rfl, hr0, hr1, hbel⟩ := hrel
      by_cases hlt : j < L.length
      · obtain ⟨b, off, rfl, hp⟩ := (HL.out.below hbel.out).at j hlt
        have HP : Hid ((L[j]'hlt).ok) := HOK.out _ (List.getElem_mem _)
        generalize (L[j]'hlt) = p at *
        obtain ⟨p0, p1, p2, p3, p4, p5, p6, p7, p8, p9⟩ := hp
        go_wp2_with fail
        refine (bytes12u r p wr (by omega) (by omega) HP.out).mono ?_
        rintro e w6 ⟨⟨r', rfl, h0, h1⟩, hb6⟩
        have HB6 : Hid (Below w5.heap.size w5 w6) := hbel.out.trans (hb6.mono hbel.out.size)
        clear hb6 hbel p0 p1 p2 p3 p4 p5 p6 p7 p8 p9
        by_cases hr : r' < 0
        · go_wp2
          go_ret
          exact ⟨⟨-1, rfl, by omega, by omega⟩, HB6.out⟩
        · go_wp2
          go_roundw
          case rel => exact ⟨j + 1, r', by omega, by go_num, rfl, by omega, by omega, HB6⟩
          case measure => simp [intOf]; omega
      · go_wp2
        go_ret
        exact ⟨⟨r, rfl, by omega, by omega⟩, hbel.out⟩

theorem Try.info28 : (Try.prog.info? 28).map (fun i => (i.zero, i.size, i.bytes)) = some (some (.agg #[.int .i64 0, .string ⟨#[]⟩, .string ⟨#[]⟩, .bool false, .string ⟨#[]⟩, .string ⟨#[]⟩, .string ⟨#[]⟩, .string ⟨#[]⟩, .string ⟨#[]⟩, .int .i64 0]), 10, 136) := by kernel_rfl

theorem eqnil22 (w : World) (a : Option Addr) (l c : Nat) : (binOp .eql 22 (.slice a l c) (.slice none 0 0)).run Try.prog w = .ok (.bool a.isNone) w := by
  have := run_equal_slice_nil (P := Try.prog) w 22 33 a l c Try.underlying22
  simp [binOp, this]

/-- A slice of pulls that the call has made: nil, or at the head of a block from B on. -/
def OwnPls (w : World) (B : Nat) (a : Option Addr) (L : List Pl) : Prop := (a = none ∧ L = []) ∨ ∃ g, a = some ⟨g, 0, none⟩ ∧ B ≤ g ∧ Row w g 0 (L.flatMap plCells)

theorem OwnPls.is {w : World} {B : Nat} {a : Option Addr} {L : List Pl} (h : OwnPls w B a L) : IsPls w a L := by
  rcases h with ⟨_, h⟩ | ⟨g, h, _, hr⟩
  · exact .inl h
  · exact .inr ⟨g, 0, h, hr⟩

set_option maxHeartbeats 1000000 in
/-- zzForgePulls -/
theorem pulls9 (a : Option Addr) (c : Nat) (L : List Pl) (w : World) (hL : IsPls w a L) (hnil : a = none → L = [] ∧ c = 0) (hm : L.length ≤ 4096) :
    Calls Try.prog 9 #[.slice a L.length c] w fun e w' => ∃ a', e = .returned (.slice a' L.length L.length) ∧ OwnPls w' w.heap.size a' L ∧ Below w.heap.size w w' := by
  have HL : Hid (IsPls w a L) := hL
  clear hL
  have heq := eqnil22 w a L.length c
  cases a with
  | none =>
    obtain ⟨rfl, rfl⟩ := hnil rfl
    clear hnil heq
    have heq := eqnil22 w none 0 0
    go_enter Try.func9, Try.ntmps9
    go_wp2
    go_ret
    exact ⟨none, rfl, .inl ⟨rfl, rfl⟩, Below.refl _ _⟩
  | some x =>
    clear hnil
    obtain ⟨i0, hi, hz0, hz1, hz2⟩ := info_parts Try.info28
    have hmake := run_make (P := Try.prog) w 31 28 i0 _ Try.underlying31 hi hz0 .i64 .i64 (L.length : Int) (L.length : Int) (by omega) (by omega) (by rw [hz2]; omega) (by omega)
    rw [hz1, Int.toNat_natCast] at hmake
    have HC := size_madeCells (Value.agg #[.int .i64 0, .string ⟨#[]⟩, .string ⟨#[]⟩, .bool false, .string ⟨#[]⟩, .string ⟨#[]⟩, .string ⟨#[]⟩, .string ⟨#[]⟩, .string ⟨#[]⟩, .int .i64 0]).cells (L.length * 10)
    generalize madeCells _ (L.length * 10) = C at hmake HC
    have HC : Hid (C.size = L.length * 10) := HC
    rename_i HC0
    clear HC0 hz0 hz1 hz2 hi
    go_enter Try.func9, Try.ntmps9
    go_wp2_with fail
    have Hst : Hid (Row (w.alloc (.cells C 28)) w.heap.size 0 ((L.take 0).flatMap plCells) ∧ Room (w.alloc (.cells C 28)) w.heap.size (L.length * 10) ∧ Below w.heap.size w (w.alloc (.cells C 28))) :=
      ⟨by simpa using Row.nil _ _ _, Room.made w C 28 _ HC.out, below_alloc w _⟩
    clear hmake heq
    go_loopw [4] (fun i wr => ∃ j : Nat, j ≤ L.length ∧ i = .int .i64 j ∧ Hid (Row wr w.heap.size 0 ((L.take j).flatMap plCells) ∧ Room wr w.heap.size (L.length * 10) ∧ Below w.heap.size w wr)) (fun i _ => L.length - (intOf i).toNat)
    case atStart => exact ⟨0, Nat.zero_le _, rfl, Hst⟩
    case round =>
      obtain ⟨j, hj, rfl, HR⟩ := hrel
      clear Hst
      by_cases hlt : j < L.length
      · obtain ⟨b, off, e, hp⟩ := (HL.out.below HR.out.2.2).at j hlt
        cases e
        obtain ⟨p0, p1, p2, p3, p4, p5, p6, p7, p8, p9⟩ := hp
        go_wp2_with fail
        refine (pull13u (L[j]'hlt) wr).mono ?_
        rintro e w6 ⟨rfl, hw6⟩
        clear p0 p1 p2 p3 p4 p5 p6 p7 p8 p9
        have hb6 : Below wr.heap.size wr w6 := by rw [hw6]; exact (below_alloc _ _).alloc (by simp) _
        clear hw6
        obtain ⟨r1, r2, r3⟩ := HR.out
        have bG : w.heap.size < wr.heap.size := r2.lt (by omega)
        have r1 := r1.below hb6 bG
        have r2 := r2.below hb6 bG
        have r3 := r3.trans (hb6.mono (by omega))
        clear HR hb6
        rename_i r1o r2o r3o
        clear r1o r2o r3o
        obtain ⟨v0, g0⟩ := r2.cell (j * 10) (by omega)
        obtain ⟨v1, g1⟩ := r2.cell (j * 10 + 1) (by omega)
        obtain ⟨v2, g2⟩ := r2.cell (j * 10 + 2) (by omega)
        obtain ⟨v3, g3⟩ := r2.cell (j * 10 + 3) (by omega)
        obtain ⟨v4, g4⟩ := r2.cell (j * 10 + 4) (by omega)
        obtain ⟨v5, g5⟩ := r2.cell (j * 10 + 5) (by omega)
        obtain ⟨v6, g6⟩ := r2.cell (j * 10 + 6) (by omega)
        obtain ⟨v7, g7⟩ := r2.cell (j * 10 + 7) (by omega)
        obtain ⟨v8, g8⟩ := r2.cell (j * 10 + 8) (by omega)
        obtain ⟨v9, g9⟩ := r2.cell (j * 10 + 9) (by omega)
        have f0 := r2.free (j * 10) (by omega)
        have f1 := r2.free (j * 10 + 1) (by omega)
        have f2 := r2.free (j * 10 + 2) (by omega)
        have f3 := r2.free (j * 10 + 3) (by omega)
        have f4 := r2.free (j * 10 + 4) (by omega)
        have f5 := r2.free (j * 10 + 5) (by omega)
        have f6 := r2.free (j * 10 + 6) (by omega)
        have f7 := r2.free (j * 10 + 7) (by omega)
        have f8 := r2.free (j * 10 + 8) (by omega)
        have f9 := r2.free (j * 10 + 9) (by omega)
        have HN : Hid (Row (stores w6 w.heap.size (j * 10) (plCells (L[j]'hlt))) w.heap.size 0 ((L.take (j + 1)).flatMap plCells) ∧ Room (stores w6 w.heap.size (j * 10) (plCells (L[j]'hlt))) w.heap.size (L.length * 10) ∧ Below w.heap.size w (stores w6 w.heap.size (j * 10) (plCells (L[j]'hlt)))) :=
          ⟨fill_step (by omega) plCells_length hlt r2 (Nat.le_refl _) r1, stores_room _ _ _ _ _ r2, stores_below (Nat.le_refl _) _ _ _ r3⟩
        clear r1 r2 r3
        go_wp2
        go_roundw
        case rel => exact ⟨j + 1, by omega, by go_num, HN⟩
        case measure => simp [intOf]; omega
      · have HF : Hid (OwnPls wr w.heap.size (some ⟨w.heap.size, 0, none⟩) L ∧ Below w.heap.size w wr) := by
          obtain ⟨r1, r2, r3⟩ := HR.out
          rw [List.take_of_length_le (by omega)] at r1
          exact ⟨.inr ⟨_, rfl, Nat.le_refl _, r1⟩, r3⟩
        clear HR
        go_wp2
        go_ret
        exact ⟨_, rfl, HF.out.1, HF.out.2⟩

end Go.Proofs.Qxb6619502a
