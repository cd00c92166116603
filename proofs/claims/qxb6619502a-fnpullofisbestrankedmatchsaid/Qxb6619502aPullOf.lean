/-
  pullOf.
-/
import Derived.Test.Qxb6619502aPullSmall
import Derived.RegionTactic
import Derived.Deep.CutBlock
import Derived.Deep.DeepCutAuto
namespace Go.Proofs.Qxb6619502a
open Go.RowKit

/-- The pulls whose head is name. -/
def flt (name : ByteArray) (L : List Pl) : List Pl := L.filter (fun p => eqs p.head name)

/-- The zero pull. -/
def zeroPl : Pl := ⟨0, ⟨#[]⟩, ⟨#[]⟩, false, ⟨#[]⟩, ⟨#[]⟩, ⟨#[]⟩, ⟨#[]⟩, ⟨#[]⟩, 0⟩

/-- What pullOf answers where these pulls match. -/
def pick (parent : ByteArray) (pr : Int) (F : List Pl) : Pl × Bool :=
  match F.find? (fun p => eqs p.base parent) with
  | some p => (p, true)
  | none => match F.find? (fun p => p.num == pr) with
    | some p => (p, true)
    | none => match F with
      | p :: _ => (p, true)
      | [] => (zeroPl, false)

theorem first_find {F : List Pl} {q : Pl → Bool} {j : Nat} (hj : j < F.length) (h : ∀ k (hk : k < F.length), k < j → q (F[k]'hk) = false) (hq : q (F[j]'hj) = true) : F.find? q = some (F[j]'hj) := by
  rw [List.find?_eq_some_iff_getElem]
  exact ⟨hq, j, hj, rfl, fun k hk => by rw [h k (by omega) hk]; rfl⟩

theorem none_find {F : List Pl} {q : Pl → Bool} (h : ∀ k (hk : k < F.length), q (F[k]'hk) = false) : F.find? q = none := by
  rw [List.find?_eq_none]
  intro x hx
  obtain ⟨k, hk, rfl⟩ := List.getElem_of_mem hx
  rw [h k hk]
  decide

theorem flt_snoc (name : ByteArray) (L : List Pl) (p : Pl) : flt name (L ++ [p]) = flt name L ++ (if eqs p.head name then [p] else []) := by
  unfold flt
  rw [List.filter_append]
  congr 1
  simp only [List.filter_cons, List.filter_nil]

theorem flt_length (name : ByteArray) (L : List Pl) : (flt name L).length ≤ L.length := List.length_filter_le _ _

theorem ten_cells (w : World) (p : Pl) (t : TypeId) : ∀ (j : Nat) (u : Value), (plCells p)[j]? = some u → (w.alloc (.cells #[.int .i64 p.num, .string p.title, .string p.state, .bool p.merged, .string p.head, .string p.hsha, .string p.base, .string p.msha, .string p.url, .int .i64 p.stack] t)).cell? ((⟨w.heap.size, 0, none⟩ : Addr).add j) = some u := by
  intro j u hu
  unfold plCells at hu
  match j, hu with
  | 0, hu => simp at hu; subst hu; simp [Addr.add]
  | 1, hu => simp at hu; subst hu; simp [Addr.add]
  | 2, hu => simp at hu; subst hu; simp [Addr.add]
  | 3, hu => simp at hu; subst hu; simp [Addr.add]
  | 4, hu => simp at hu; subst hu; simp [Addr.add]
  | 5, hu => simp at hu; subst hu; simp [Addr.add]
  | 6, hu => simp at hu; subst hu; simp [Addr.add]
  | 7, hu => simp at hu; subst hu; simp [Addr.add]
  | 8, hu => simp at hu; subst hu; simp [Addr.add]
  | 9, hu => simp at hu; subst hu; simp [Addr.add]
  | j + 10, hu => simp at hu

/-- What pullOf returns. -/
def retPl (r : Pl × Bool) : Ending := .returned (.tuple #[plV r.1, .bool r.2])

/-- A row of pulls the call has made, opened. -/
theorem own_pls {w : World} {B : Nat} {v : Value} {L : List Pl} (h : w.ownsRow B 28 10 v L.length (L.flatMap plCells)) : ∃ a c, v = .slice a L.length c ∧ (L = [] ∨ ∃ g, a = some ⟨g, 0, none⟩ ∧ Row w g 0 (L.flatMap plCells)) := by
  rcases h.2 with ⟨rfl, h0⟩ | ⟨g, cap, cur, rfl, _⟩
  · exact ⟨none, 0, by rw [h0], .inl (List.eq_nil_of_length_eq_zero h0)⟩
  · refine ⟨_, cap, rfl, .inr ⟨g, rfl, fun j u hu => ?_⟩⟩
    have := h.cells (g := g) rfl j u hu
    rw [show (⟨g, 0, none⟩ : Addr).add j = ⟨g, 0 + j, none⟩ by unfold Addr.add; split <;> simp_all] at this
    exact this

theorem fin20 {R : Ending → World → Prop} {x : Act} {w' : World} (V : Nat) (p : Pl) (b : Bool) (h6 : x.tmps[6]? = some (.pointer (some ⟨V, 0, none⟩))) (h7 : x.tmps[7]? = some (.bool b)) (hd : x.defers = []) (hp : PlAt w' V 0 p)
    (h : R (retPl (p, b)) w') : bodyPost Try.prog Try.f20 R .ret x w' := by
  unfold PlAt at hp
  simp only [Nat.zero_add] at hp
  obtain ⟨p0, p1, p2, p3, p4, p5, p6, p7, p8, p9⟩ := hp
  exact bodyPost_ret (v := .tuple #[plV p, .bool b]) (by simp [results, Try.results20, go_sem, h6, h7, p0, p1, p2, p3, p4, p5, p6, p7, p8, p9, plV]) hd h

/-- What the loops of pullOf keep: the branch's record in block V, room for the result in block V1. -/
def Bs (w W : World) (V V1 : Nat) (parent : ByteArray) (pr : Int) : Prop :=
  W.cell? ⟨V, 0, none⟩ = some (.string parent) ∧ W.cell? ⟨V, 2, none⟩ = some (.int .i64 pr) ∧ Room W V1 10 ∧ Below w.heap.size w W ∧ V < W.heap.size ∧ V1 < W.heap.size ∧ w.heap.size ≤ V1

theorem Bs.below {w W W' : World} {V V1 : Nat} {parent : ByteArray} {pr : Int} (h : Bs w W V V1 parent pr) (hb : Below W.heap.size W W') : Bs w W' V V1 parent pr := by
  obtain ⟨h1, h2, h3, h4, h5, h6, h7⟩ := h
  have := hb.size
  exact ⟨(bel_cell hb h5 _).trans h1, (bel_cell hb h5 _).trans h2, h3.below hb h6, h4.trans (hb.mono h4.size), by omega, by omega, h7⟩

/-- The result stored. -/
theorem Bs.fin {w W : World} {V V1 : Nat} {parent : ByteArray} {pr : Int} (h : Bs w W V V1 parent pr) (p : Pl) : PlAt (stores W V1 0 (plCells p)) V1 0 p ∧ Below w.heap.size w (stores W V1 0 (plCells p)) :=
  ⟨(stores_row V1 10 _ _ _ h.2.2.1 (by rw [plCells_length]; omega)).pl, stores_below h.2.2.2.2.2.2 _ _ _ h.2.2.2.1⟩

theorem pick_base {parent : ByteArray} {pr : Int} {F : List Pl} {p : Pl} (h : F.find? (fun p => eqs p.base parent) = some p) : pick parent pr F = (p, true) := by unfold pick; rw [h]
theorem pick_num {parent : ByteArray} {pr : Int} {F : List Pl} {p : Pl} (h : F.find? (fun p => eqs p.base parent) = none) (h2 : F.find? (fun p => p.num == pr) = some p) : pick parent pr F = (p, true) := by unfold pick; rw [h, h2]
theorem pick_head {parent : ByteArray} {pr : Int} {F : List Pl} (h : F.find? (fun p => eqs p.base parent) = none) (h2 : F.find? (fun p => p.num == pr) = none) (h0 : 0 < F.length) : pick parent pr F = (F[0]'h0, true) := by
  unfold pick
  rw [h, h2]
  cases F with
  | nil => simp at h0
  | cons p F => rfl
theorem pick_nil (parent : ByteArray) (pr : Int) : pick parent pr [] = (zeroPl, false) := rfl

theorem cells10 {w : World} {g : Nat} (h : Room w g 10) : (∃ v, w.cell? ⟨g, 0, none⟩ = some v) ∧ (∃ v, w.cell? ⟨g, 1, none⟩ = some v) ∧ (∃ v, w.cell? ⟨g, 2, none⟩ = some v) ∧ (∃ v, w.cell? ⟨g, 3, none⟩ = some v) ∧ (∃ v, w.cell? ⟨g, 4, none⟩ = some v) ∧
    (∃ v, w.cell? ⟨g, 5, none⟩ = some v) ∧ (∃ v, w.cell? ⟨g, 6, none⟩ = some v) ∧ (∃ v, w.cell? ⟨g, 7, none⟩ = some v) ∧ (∃ v, w.cell? ⟨g, 8, none⟩ = some v) ∧ (∃ v, w.cell? ⟨g, 9, none⟩ = some v) :=
  ⟨h.cell 0 (by omega), h.cell 1 (by omega), h.cell 2 (by omega), h.cell 3 (by omega), h.cell 4 (by omega), h.cell 5 (by omega), h.cell 6 (by omega), h.cell 7 (by omega), h.cell 8 (by omega), h.cell 9 (by omega)⟩
theorem free10 {w : World} {g : Nat} (h : Room w g 10) : w.frozen? ⟨g, 0, none⟩ = false ∧ w.frozen? ⟨g, 1, none⟩ = false ∧ w.frozen? ⟨g, 2, none⟩ = false ∧ w.frozen? ⟨g, 3, none⟩ = false ∧ w.frozen? ⟨g, 4, none⟩ = false ∧
    w.frozen? ⟨g, 5, none⟩ = false ∧ w.frozen? ⟨g, 6, none⟩ = false ∧ w.frozen? ⟨g, 7, none⟩ = false ∧ w.frozen? ⟨g, 8, none⟩ = false ∧ w.frozen? ⟨g, 9, none⟩ = false :=
  ⟨h.free 0 (by omega), h.free 1 (by omega), h.free 2 (by omega), h.free 3 (by omega), h.free 4 (by omega), h.free 5 (by omega), h.free 6 (by omega), h.free 7 (by omega), h.free 8 (by omega), h.free 9 (by omega)⟩

set_option maxRecDepth 100000 in
set_option maxHeartbeats 4000000 in
/-- pullOf -/
theorem pull20 (a : Option Addr) (c : Nat) (L : List Pl) (name parent base pushed : ByteArray) (pr fst : Int) (w : World) (hL : IsPls w a L) (hl : L.length ≤ 4097) :
    Calls Try.prog 20 #[.slice a L.length c, .string name, .agg #[.string parent, .string base, .int .i64 pr, .string pushed, .int .i64 fst]] w fun e w' => e = retPl (pick parent pr (flt name L)) ∧ Below w.heap.size w w' := by
  have HL : Hid (IsPls w a L) := hL
  clear hL
  obtain ⟨i0, hi, hz0, hz1, hz2⟩ := info_parts Try.info28
  go_enter Try.func20, Try.ntmps20
  go_upto_region 1 with fail
  obtain ⟨W, hW⟩ : ∃ W, W = (w.alloc (.cells #[.string parent, .string base, .int .i64 pr, .string pushed, .int .i64 fst] 26)).alloc (.cells #[.int .i64 0, .string ⟨#[]⟩, .string ⟨#[]⟩, .bool false, .string ⟨#[]⟩, .string ⟨#[]⟩, .string ⟨#[]⟩, .string ⟨#[]⟩, .string ⟨#[]⟩, .int .i64 0] 28) := ⟨_, rfl⟩
  rw [← hW]
  have HBs : Hid (Bs w W w.heap.size (w.heap.size + 1) parent pr) := by
    refine ⟨by rw [hW]; simp, by rw [hW]; simp, ?_, by rw [hW]; exact (below_alloc _ _).alloc (by simp) _, by rw [hW]; simp; omega, by rw [hW]; simp, by omega⟩
    have := Room.made (w.alloc (.cells #[.string parent, .string base, .int .i64 pr, .string pushed, .int .i64 fst] 26)) #[.int .i64 0, .string ⟨#[]⟩, .string ⟨#[]⟩, .bool false, .string ⟨#[]⟩, .string ⟨#[]⟩, .string ⟨#[]⟩, .string ⟨#[]⟩, .string ⟨#[]⟩, .int .i64 0] 28 10 rfl
    rw [hW]
    simpa using this
  clear hW
  generalize w.heap.size + 1 = V1 at *
  have HL2 : Hid (IsPls W a L) := HL.out.below HBs.out.2.2.2.1
  clear HL
  go_upto_block 0 with fail
  go_cut [8, 10, 17] (fun v _ _ wx => Hid (wx.ownsRow W.heap.size 28 10 v (flt name L).length ((flt name L).flatMap plCells)) ∧ Hid (Below W.heap.size W wx))
  case first =>
    go_wp2_with fail
    go_loopw [8, 10, 17] (fun v _ i wr => ∃ j : Nat, j ≤ L.length ∧ i = .int .i64 j ∧ Hid (wr.ownsRow W.heap.size 28 10 v (flt name (L.take j)).length ((flt name (L.take j)).flatMap plCells)) ∧ Hid (Below W.heap.size W wr)) (fun _ _ i _ => L.length - (intOf i).toNat)
    case atStart => exact ⟨0, Nat.zero_le _, rfl, by simpa [flt, Hid] using World.ownsRow_nil W W.heap.size 28 10, Below.refl _ _⟩
    case round =>
      obtain ⟨j, hj, rfl, hown, hbel⟩ := hrel
      by_cases hlt : j < L.length
      · obtain ⟨b, off, rfl, hp⟩ := (HL2.out.below hbel.out).at j hlt
        have HT : Hid (L.take (j + 1) = L.take j ++ [L[j]'hlt]) := by rw [List.take_succ_eq_append_getElem hlt]; rfl
        have HB1 : Hid (∀ o, Below W.heap.size W (wr.alloc o)) := fun o => hbel.out.trans ((below_alloc wr o).mono hbel.out.size)
        have HO1 : Hid (∀ o, (wr.alloc o).ownsRow W.heap.size 28 10 u8 (flt name (L.take j)).length ((flt name (L.take j)).flatMap plCells)) := fun o => own_below hown.out (below_alloc wr o)
        have hlen := flt_length name (L.take j)
        rw [List.length_take] at hlen
        generalize hm0 : (L[j]'hlt) = p at *
        have Hm0 : Hid ((L[j]'hlt) = p) := hm0
        clear hm0
        obtain ⟨p0, p1, p2, p3, p4, p5, p6, p7, p8, p9⟩ := hp
        go_upto_region 5 with fail
        clear p0 p1 p2 p3 p4 p5 p6 p7 p8 p9
        obtain ⟨W3, hW3⟩ : ∃ W3, W3 = wr.alloc (.cells #[.int .i64 p.num, .string p.title, .string p.state, .bool p.merged, .string p.head, .string p.hsha, .string p.base, .string p.msha, .string p.url, .int .i64 p.stack] 28) := ⟨_, rfl⟩
        rw [← hW3]
        have hp : PlAt W3 wr.heap.size 0 p := by rw [hW3]; unfold PlAt; simp
        have hb3 : Hid (Below W.heap.size W W3) := by rw [hW3]; exact HB1.out _
        have hown3 : Hid (W3.ownsRow W.heap.size 28 10 u8 (flt name (L.take j)).length ((flt name (L.take j)).flatMap plCells)) := by rw [hW3]; exact HO1.out _
        clear hW3 HB1 HO1 hown hbel
        unfold PlAt at hp
        simp only [Nat.zero_add] at hp
        obtain ⟨p0, p1, p2, p3, p4, p5, p6, p7, p8, p9⟩ := hp
        generalize wr.heap.size = V3 at *
        generalize hU : flt name (L.take j) = U at *
        have HU : Hid (flt name (L.take j) = U) := hU
        clear hU
        cases hA : (p.head.toList == name.toList) with
        | false =>
          have HN : Hid (flt name (L.take (j + 1)) = U) := by
            rw [HT.out, flt_snoc, HU.out]
            have : eqs p.head name = false := hA
            rw [this]
            exact List.append_nil _
          go_wp2
          go_roundw
          case rel => exact ⟨j + 1, by omega, by go_num, by rw [HN.out]; exact hown3, hb3⟩
          case measure => simp [intOf]; omega
        | true =>
          have HN : Hid (flt name (L.take (j + 1)) = U ++ [p]) := by
            rw [HT.out, flt_snoc, HU.out]
            have : eqs p.head name = true := hA
            rw [this]
            rfl
          go_wp2_with (at_builtin; refine wpList_append_own _ rfl (.tmp 25) (.tmp 27) 31 rfl W.heap.size 28 i0 _ 10 136 Try.underlying31 hi hz0 hz1 hz2 rfl (by decide) u8 U.length (U.flatMap plCells) rfl (hown3.out.alloc _) ⟨W3.heap.size, 0, none⟩ 1 1 (plCells p) rfl rfl (ten_cells W3 p 28) (by simp [plCells, Value.oneCell']) (by unfold maxLen; omega) (by omega) (by have := hb3.out.size; simp; omega) ?_; intro v' w4 hown4 hgr4 _)
          have HB4 : Hid (Below W.heap.size W w4) := append_below hb3.out hown3.out hgr4
          have HO4 : Hid (w4.ownsRow W.heap.size 28 10 v' (flt name (L.take (j + 1))).length ((flt name (L.take (j + 1))).flatMap plCells)) := by
            rw [HN.out]
            have e : (U ++ [p] : List Pl).flatMap plCells = U.flatMap plCells ++ plCells p := by rw [List.flatMap_append]; simp
            rw [e, List.length_append]
            exact hown4
          clear hown4 hgr4 hown3
          go_roundw
          case rel => exact ⟨j + 1, by omega, by go_num, HO4, HB4⟩
          case measure => simp [intOf]; omega
      · have HF : Hid (wr.ownsRow W.heap.size 28 10 u8 (flt name L).length ((flt name L).flatMap plCells)) := by
          have := hown.out
          rwa [List.take_of_length_le (by omega)] at this
        clear hown
        go_wp2
        go_meet
        case rel => exact ⟨HF, hbel⟩
  case rest =>
    obtain ⟨ho, hb⟩ := hcut
    have hlen : (flt name L).length ≤ 4097 := Nat.le_trans (flt_length name L) hl
    obtain ⟨ag, cg, rfl, hg⟩ := own_pls ho.out
    have HG : Hid (flt name L = [] ∨ ∃ g, ag = some ⟨g, 0, none⟩ ∧ Row wc g 0 ((flt name L).flatMap plCells)) := hg
    have HB : Hid (Bs w wc w.heap.size V1 parent pr) := HBs.out.below hb.out
    clear ho hb hg HBs HL2
    generalize hF : flt name L = F at *
    have HF : Hid (flt name L = F) := hF
    generalize hV : w.heap.size = V at *
    have HV : Hid (w.heap.size = V) := hV
    clear hF hV
    by_cases hn : F.length = 0
    · have HN : Hid (F = []) := List.eq_nil_of_length_eq_zero hn
      obtain ⟨s0, s1, s2, s3, s4, s5, s6, s7, s8, s9⟩ := cells10 HB.out.2.2.1
      obtain ⟨f0, f1, f2, f3, f4, f5, f6, f7, f8, f9⟩ := free10 HB.out.2.2.1
      obtain ⟨v0, s0⟩ := s0
      obtain ⟨v1, s1⟩ := s1
      obtain ⟨v2, s2⟩ := s2
      obtain ⟨v3, s3⟩ := s3
      obtain ⟨v4, s4⟩ := s4
      obtain ⟨v5, s5⟩ := s5
      obtain ⟨v6, s6⟩ := s6
      obtain ⟨v7, s7⟩ := s7
      obtain ⟨v8, s8⟩ := s8
      obtain ⟨v9, s9⟩ := s9
      have HX := HB.out.fin zeroPl
      have HX : Hid (PlAt (stores wc V1 0 (plCells zeroPl)) V1 0 zeroPl ∧ Below w.heap.size w (stores wc V1 0 (plCells zeroPl))) := HX
      go_wp2
      exact fin20 V1 zeroPl false rfl rfl rfl HX.out.1 ⟨by rw [HF.out, HN.out, pick_nil], HX.out.2⟩
    · obtain ⟨g, rfl, hrow⟩ : ∃ g, ag = some ⟨g, 0, none⟩ ∧ Row wc g 0 (F.flatMap plCells) := by
        rcases HG.out with h | h
        · rw [h] at hn; simp at hn
        · exact h
      have HR : Hid (Row wc g 0 (F.flatMap plCells)) := hrow
      have hgl : Hid (g < wc.heap.size) := hrow.lt (by rw [flat_length plCells 10 plCells_length]; omega)
      clear hrow HG
      go_upto_block 2 with fail
      go_cut [12, 36] (fun _ _ wx => Hid (∀ k (hk : k < F.length), (eqs (F[k]'hk).base parent) = false) ∧ Hid (Below wc.heap.size wc wx))
      case first =>
        go_wp2_with fail
        go_loopw [12, 36] (fun _ i wr => ∃ j : Nat, j ≤ F.length ∧ i = .int .i64 j ∧ Hid (∀ k (hk : k < F.length), k < j → (eqs (F[k]'hk).base parent) = false) ∧ Hid (Below wc.heap.size wc wr)) (fun _ i _ => F.length - (intOf i).toNat)
        case atStart => exact ⟨0, Nat.zero_le _, rfl, fun k hk h => by omega, Below.refl _ _⟩
        case round =>
          obtain ⟨j, hj, rfl, hno, hbel⟩ := hrel
          by_cases hlt : j < F.length
          · have hp := ((HR.out.below hbel.out hgl.out).elem plCells_length j hlt).pl
            rw [Nat.zero_add] at hp
            have HB1 : Hid (∀ o, Below wc.heap.size wc (wr.alloc o)) := fun o => hbel.out.trans ((below_alloc wr o).mono hbel.out.size)
            generalize hm0 : (F[j]'hlt) = p at *
            have Hm0 : Hid ((F[j]'hlt) = p) := hm0
            clear hm0
            obtain ⟨p0, p1, p2, p3, p4, p5, p6, p7, p8, p9⟩ := hp
            go_upto_region 13 with fail
            clear p0 p1 p2 p3 p4 p5 p6 p7 p8 p9
            obtain ⟨W3, hW3⟩ : ∃ W3, W3 = wr.alloc (.cells #[.int .i64 p.num, .string p.title, .string p.state, .bool p.merged, .string p.head, .string p.hsha, .string p.base, .string p.msha, .string p.url, .int .i64 p.stack] 28) := ⟨_, rfl⟩
            rw [← hW3]
            have hp : PlAt W3 wr.heap.size 0 p := by rw [hW3]; unfold PlAt; simp
            have hb3 : Hid (Below wc.heap.size wc W3) := by rw [hW3]; exact HB1.out _
            clear hW3 HB1 hbel
            unfold PlAt at hp
            simp only [Nat.zero_add] at hp
            obtain ⟨p0, p1, p2, p3, p4, p5, p6, p7, p8, p9⟩ := hp
            generalize wr.heap.size = V3 at *
            have HB3 : Hid (Bs w W3 V V1 parent pr) := HB.out.below hb3.out
            have c0 := HB3.out.1
            have c2 := HB3.out.2.1
            cases hA : (p.base.toList == parent.toList) with
            | false =>
              have HN : Hid (∀ k (hk : k < F.length), k < j + 1 → (eqs (F[k]'hk).base parent) = false) := by
                intro k hk hlt'
                by_cases e : k = j
                · subst e; rw [Hm0.out]; exact hA
                · exact hno.out k hk (by omega)
              go_wp2
              go_roundw
              case rel => exact ⟨j + 1, by omega, by go_num, HN, hb3⟩
              case measure => simp [intOf]; omega
            | true =>
              have HX : Hid (PlAt (stores W3 V1 0 (plCells p)) V1 0 p ∧ Below w.heap.size w (stores W3 V1 0 (plCells p))) := HB3.out.fin p
              have HP : Hid (pick parent pr F = (p, true)) := pick_base (by have := first_find hlt (q := fun p => eqs p.base parent) hno.out (by rw [Hm0.out]; exact hA); rwa [Hm0.out] at this)
              obtain ⟨s0, s1, s2, s3, s4, s5, s6, s7, s8, s9⟩ := cells10 HB3.out.2.2.1
              obtain ⟨f0, f1, f2, f3, f4, f5, f6, f7, f8, f9⟩ := free10 HB3.out.2.2.1
              obtain ⟨v0, s0⟩ := s0
              obtain ⟨v1, s1⟩ := s1
              obtain ⟨v2, s2⟩ := s2
              obtain ⟨v3, s3⟩ := s3
              obtain ⟨v4, s4⟩ := s4
              obtain ⟨v5, s5⟩ := s5
              obtain ⟨v6, s6⟩ := s6
              obtain ⟨v7, s7⟩ := s7
              obtain ⟨v8, s8⟩ := s8
              obtain ⟨v9, s9⟩ := s9
              go_wp2
              exact fin20 V1 p true rfl rfl rfl HX.out.1 ⟨by rw [HF.out, HP.out], HX.out.2⟩
          · have HN : Hid (∀ k (hk : k < F.length), (eqs (F[k]'hk).base parent) = false) := fun k hk => hno.out k hk (by omega)
            go_wp2
            go_meet
            case rel => exact ⟨HN, hbel⟩
      case rest =>
        obtain ⟨hno1, hb⟩ := hcut
        have HNB : Hid (F.find? (fun p => eqs p.base parent) = none) := none_find hno1.out
        have HB2 : Hid (Bs w wc V V1 parent pr) := HB.out.below hb.out
        have HR2 : Hid (Row wc g 0 (F.flatMap plCells)) := HR.out.below hb.out hgl.out
        have hgl2 : Hid (g < wc.heap.size) := by have := hb.out.size; have := hgl.out; show g < wc.heap.size; omega
        clear HB HR hgl hb hno1
        have HB : Hid (Bs w wc V V1 parent pr) := HB2
        have HR : Hid (Row wc g 0 (F.flatMap plCells)) := HR2
        have hgl : Hid (g < wc.heap.size) := hgl2
        clear HB2 HR2 hgl2
        go_upto_block 4 with fail
        go_cut [14, 49] (fun _ _ wx => Hid (∀ k (hk : k < F.length), ((F[k]'hk).num == pr) = false) ∧ Hid (Below wc.heap.size wc wx))
        case first =>
          go_wp2_with fail
          go_loopw [14, 49] (fun _ i wr => ∃ j : Nat, j ≤ F.length ∧ i = .int .i64 j ∧ Hid (∀ k (hk : k < F.length), k < j → ((F[k]'hk).num == pr) = false) ∧ Hid (Below wc.heap.size wc wr)) (fun _ i _ => F.length - (intOf i).toNat)
          case atStart => exact ⟨0, Nat.zero_le _, rfl, fun k hk h => by omega, Below.refl _ _⟩
          case round =>
            obtain ⟨j, hj, rfl, hno, hbel⟩ := hrel
            by_cases hlt : j < F.length
            · have hp := ((HR.out.below hbel.out hgl.out).elem plCells_length j hlt).pl
              rw [Nat.zero_add] at hp
              have HB1 : Hid (∀ o, Below wc.heap.size wc (wr.alloc o)) := fun o => hbel.out.trans ((below_alloc wr o).mono hbel.out.size)
              generalize hm0 : (F[j]'hlt) = p at *
              have Hm0 : Hid ((F[j]'hlt) = p) := hm0
              clear hm0
              obtain ⟨p0, p1, p2, p3, p4, p5, p6, p7, p8, p9⟩ := hp
              go_upto_region 19 with fail
              clear p0 p1 p2 p3 p4 p5 p6 p7 p8 p9
              obtain ⟨W3, hW3⟩ : ∃ W3, W3 = wr.alloc (.cells #[.int .i64 p.num, .string p.title, .string p.state, .bool p.merged, .string p.head, .string p.hsha, .string p.base, .string p.msha, .string p.url, .int .i64 p.stack] 28) := ⟨_, rfl⟩
              rw [← hW3]
              have hp : PlAt W3 wr.heap.size 0 p := by rw [hW3]; unfold PlAt; simp
              have hb3 : Hid (Below wc.heap.size wc W3) := by rw [hW3]; exact HB1.out _
              clear hW3 HB1 hbel
              unfold PlAt at hp
              simp only [Nat.zero_add] at hp
              obtain ⟨p0, p1, p2, p3, p4, p5, p6, p7, p8, p9⟩ := hp
              generalize wr.heap.size = V3 at *
              have HB3 : Hid (Bs w W3 V V1 parent pr) := HB.out.below hb3.out
              have c0 := HB3.out.1
              have c2 := HB3.out.2.1
              cases hA : (p.num == pr) with
              | false =>
                have HN : Hid (∀ k (hk : k < F.length), k < j + 1 → ((F[k]'hk).num == pr) = false) := by
                  intro k hk hlt'
                  by_cases e : k = j
                  · subst e; rw [Hm0.out]; exact hA
                  · exact hno.out k hk (by omega)
                go_wp2
                go_roundw
                case rel => exact ⟨j + 1, by omega, by go_num, HN, hb3⟩
                case measure => simp [intOf]; omega
              | true =>
                have HX : Hid (PlAt (stores W3 V1 0 (plCells p)) V1 0 p ∧ Below w.heap.size w (stores W3 V1 0 (plCells p))) := HB3.out.fin p
                have HP : Hid (pick parent pr F = (p, true)) := pick_num HNB.out (by have := first_find hlt (q := fun p => p.num == pr) hno.out (by rw [Hm0.out]; exact hA); rwa [Hm0.out] at this)
                obtain ⟨s0, s1, s2, s3, s4, s5, s6, s7, s8, s9⟩ := cells10 HB3.out.2.2.1
                obtain ⟨f0, f1, f2, f3, f4, f5, f6, f7, f8, f9⟩ := free10 HB3.out.2.2.1
                obtain ⟨v0, s0⟩ := s0
                obtain ⟨v1, s1⟩ := s1
                obtain ⟨v2, s2⟩ := s2
                obtain ⟨v3, s3⟩ := s3
                obtain ⟨v4, s4⟩ := s4
                obtain ⟨v5, s5⟩ := s5
                obtain ⟨v6, s6⟩ := s6
                obtain ⟨v7, s7⟩ := s7
                obtain ⟨v8, s8⟩ := s8
                obtain ⟨v9, s9⟩ := s9
                go_wp2
                exact fin20 V1 p true rfl rfl rfl HX.out.1 ⟨by rw [HF.out, HP.out], HX.out.2⟩
            · have HN : Hid (∀ k (hk : k < F.length), ((F[k]'hk).num == pr) = false) := fun k hk => hno.out k hk (by omega)
              go_wp2
              go_meet
              case rel => exact ⟨HN, hbel⟩
        case rest =>
          obtain ⟨hno1, hb⟩ := hcut
          have HNN : Hid (F.find? (fun p => p.num == pr) = none) := none_find hno1.out
          have HB3 : Hid (Bs w wc V V1 parent pr) := HB.out.below hb.out
          have h0 : 0 < F.length := by omega
          have hp := ((HR.out.below hb.out hgl.out).elem plCells_length 0 h0).pl
          rw [Nat.zero_mul, Nat.zero_add] at hp
          have HP : Hid (pick parent pr F = (F[0]'h0, true)) := pick_head HNB.out HNN.out h0
          generalize (F[0]'h0) = p at *
          clear HB HR hgl hb hno1 HNB HNN
          have HX : Hid (PlAt (stores wc V1 0 (plCells p)) V1 0 p ∧ Below w.heap.size w (stores wc V1 0 (plCells p))) := HB3.out.fin p
          unfold PlAt at hp
          simp only [Nat.zero_add] at hp
          obtain ⟨p0, p1, p2, p3, p4, p5, p6, p7, p8, p9⟩ := hp
          obtain ⟨s0, s1, s2, s3, s4, s5, s6, s7, s8, s9⟩ := cells10 HB3.out.2.2.1
          obtain ⟨f0, f1, f2, f3, f4, f5, f6, f7, f8, f9⟩ := free10 HB3.out.2.2.1
          obtain ⟨v0, s0⟩ := s0
          obtain ⟨v1, s1⟩ := s1
          obtain ⟨v2, s2⟩ := s2
          obtain ⟨v3, s3⟩ := s3
          obtain ⟨v4, s4⟩ := s4
          obtain ⟨v5, s5⟩ := s5
          obtain ⟨v6, s6⟩ := s6
          obtain ⟨v7, s7⟩ := s7
          obtain ⟨v8, s8⟩ := s8
          obtain ⟨v9, s9⟩ := s9
          go_wp2
          exact fin20 V1 p true rfl rfl rfl HX.out.1 ⟨by rw [HF.out, HP.out], HX.out.2⟩

theorem fin8 {R : Ending → World → Prop} {x : Act} {w' : World} (V : Nat) (p : Pl) (b : Bool) (h6 : x.tmps[6]? = some (.pointer (some ⟨V, 0, none⟩))) (h7 : x.tmps[7]? = some (.bool b)) (hd : x.defers = []) (hp : PlAt w' V 0 p)
    (h : R (retPl (p, b)) w') : bodyPost Try.prog Try.f8 R .ret x w' := by
  unfold PlAt at hp
  simp only [Nat.zero_add] at hp
  obtain ⟨p0, p1, p2, p3, p4, p5, p6, p7, p8, p9⟩ := hp
  exact bodyPost_ret (v := .tuple #[plV p, .bool b]) (by simp [results, Try.results8, go_sem, h6, h7, p0, p1, p2, p3, p4, p5, p6, p7, p8, p9, plV]) hd h

set_option maxRecDepth 100000 in
set_option maxHeartbeats 4000000 in
/-- ZZPullOf -/
theorem zz8 (a : Option Addr) (c : Nat) (L : List Pl) (name parent base pushed : ByteArray) (pr fst : Int) (w : World) (hL : IsPls w a L) (hl : L.length ≤ 4097) :
    Calls Try.prog 8 #[.slice a L.length c, .string name, .agg #[.string parent, .string base, .int .i64 pr, .string pushed, .int .i64 fst]] w fun e w' => e = retPl (pick parent pr (flt name L)) ∧ Below w.heap.size w w' := by
  have HL : Hid (IsPls w a L) := hL
  clear hL
  go_enter Try.func8, Try.ntmps8
  go_upto_region 1 with fail
  obtain ⟨W, hW⟩ : ∃ W, W = (w.alloc (.cells #[.string parent, .string base, .int .i64 pr, .string pushed, .int .i64 fst] 26)).alloc (.cells #[.int .i64 0, .string ⟨#[]⟩, .string ⟨#[]⟩, .bool false, .string ⟨#[]⟩, .string ⟨#[]⟩, .string ⟨#[]⟩, .string ⟨#[]⟩, .string ⟨#[]⟩, .int .i64 0] 28) := ⟨_, rfl⟩
  rw [← hW]
  have b0 : W.cell? ⟨w.heap.size, 0, none⟩ = some (.string parent) := by rw [hW]; simp
  have b1 : W.cell? ⟨w.heap.size, 1, none⟩ = some (.string base) := by rw [hW]; simp
  have b2 : W.cell? ⟨w.heap.size, 2, none⟩ = some (.int .i64 pr) := by rw [hW]; simp
  have b3 : W.cell? ⟨w.heap.size, 3, none⟩ = some (.string pushed) := by rw [hW]; simp
  have b4 : W.cell? ⟨w.heap.size, 4, none⟩ = some (.int .i64 fst) := by rw [hW]; simp
  have HBs : Hid (Bs w W w.heap.size (w.heap.size + 1) parent pr) := by
    refine ⟨by rw [hW]; simp, by rw [hW]; simp, ?_, by rw [hW]; exact (below_alloc _ _).alloc (by simp) _, by rw [hW]; simp; omega, by rw [hW]; simp, by omega⟩
    have := Room.made (w.alloc (.cells #[.string parent, .string base, .int .i64 pr, .string pushed, .int .i64 fst] 26)) #[.int .i64 0, .string ⟨#[]⟩, .string ⟨#[]⟩, .bool false, .string ⟨#[]⟩, .string ⟨#[]⟩, .string ⟨#[]⟩, .string ⟨#[]⟩, .string ⟨#[]⟩, .int .i64 0] 28 10 rfl
    rw [hW]
    simpa using this
  clear hW
  generalize w.heap.size + 1 = V1 at *
  have HL2 : Hid (IsPls W a L) := HL.out.below HBs.out.2.2.2.1
  clear HL
  go_wp2_with fail
  refine (pull20 a c L name parent base pushed pr fst W HL2.out hl).mono ?_
  rintro e w2 ⟨rfl, hb⟩
  have HB3 : Hid (Bs w w2 w.heap.size V1 parent pr) := HBs.out.below hb
  clear HBs hb b0 b1 b2 b3 b4 HL2
  have HE : Hid (pick parent pr (flt name L) = pick parent pr (flt name L)) := rfl
  generalize hr : pick parent pr (flt name L) = r at *
  clear HE
  have HE : Hid (pick parent pr (flt name L) = r) := hr
  clear hr
  obtain ⟨p, bb⟩ := r
  unfold retPl plV
  have HX : Hid (PlAt (stores w2 V1 0 (plCells p)) V1 0 p ∧ Below w.heap.size w (stores w2 V1 0 (plCells p))) := HB3.out.fin p
  obtain ⟨s0, s1, s2, s3, s4, s5, s6, s7, s8, s9⟩ := cells10 HB3.out.2.2.1
  obtain ⟨f0, f1, f2, f3, f4, f5, f6, f7, f8, f9⟩ := free10 HB3.out.2.2.1
  obtain ⟨v0, s0⟩ := s0
  obtain ⟨v1, s1⟩ := s1
  obtain ⟨v2, s2⟩ := s2
  obtain ⟨v3, s3⟩ := s3
  obtain ⟨v4, s4⟩ := s4
  obtain ⟨v5, s5⟩ := s5
  obtain ⟨v6, s6⟩ := s6
  obtain ⟨v7, s7⟩ := s7
  obtain ⟨v8, s8⟩ := s8
  obtain ⟨v9, s9⟩ := s9
  go_wp2
  exact fin8 V1 p bb rfl rfl rfl HX.out.1 ⟨by rw [HE.out], HX.out.2⟩

end Go.Proofs.Qxb6619502a
