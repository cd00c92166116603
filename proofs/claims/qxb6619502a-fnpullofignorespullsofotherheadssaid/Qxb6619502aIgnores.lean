/-
  The law FnPullOfIgnoresPullsOfOtherHeads: the walk.
-/
import Derived.Test.Qxb6619502aPlainIgn
import Derived.Test.Qxb6619502aPullFits
import Derived.BigRegion
import Derived.Deep.RegionWith
namespace Go.Proofs.Qxb6619502a
open Go.RowKit

/-- What the law keeps: the pull x in block X, the branch in block T, the pulls and their copy. -/
def Env4 (w W : World) (X T : Nat) (x : Pl) (parent base pushed : ByteArray) (pr fst : Int) (a a5 : Option Addr) (L : List Pl) : Prop :=
  PlAt W X 0 x ∧ BrAt W T parent base pushed pr fst ∧ IsPls W a L ∧ IsPls W a5 L ∧ Below w.heap.size w W ∧ X < W.heap.size ∧ T < W.heap.size

theorem Env4.below {w W W' : World} {X T : Nat} {x : Pl} {parent base pushed : ByteArray} {pr fst : Int} {a a5 : Option Addr} {L : List Pl} (h : Env4 w W X T x parent base pushed pr fst a a5 L) (hb : Below W.heap.size W W') : Env4 w W' X T x parent base pushed pr fst a a5 L := by
  obtain ⟨h1, h2, h3, h4, h5, h6, h7⟩ := h
  have := hb.size
  exact ⟨h1.below hb h6, h2.below hb h7, h3.below hb, h4.below hb, h5.trans (hb.mono h5.size), by omega, by omega⟩

theorem wth_step {L : List Pl} {P : Nat} (x : Pl) {k : Nat} (hP : P ≤ k) (hk : k < L.length) : wth L P x (k + 1 - P) = wth L P x (k - P) ++ [L[k]'hk] := by
  have h := wth_succ (L := L) (P := P) x (j := k - P) (by omega)
  have e1 : k + 1 - P = (k - P) + 1 := by omega
  rw [e1, h]
  have e2 : P + (k - P) = k := by omega
  simp only [e2]

/-- What the law keeps behind the two answers. -/
def Env5 (w W : World) (G1 G2 : Nat) (p : Pl) (a : Option Addr) (L : List Pl) : Prop := PlAt W G1 0 p ∧ PlAt W G2 0 p ∧ IsPls W a L ∧ Below w.heap.size w W

theorem Env5.below {w W W' : World} {G1 G2 : Nat} {p : Pl} {a : Option Addr} {L : List Pl} (h : Env5 w W G1 G2 p a L) (hb : Below W.heap.size W W') : Env5 w W' G1 G2 p a L := by
  obtain ⟨h1, h2, h3, h4⟩ := h
  exact ⟨h1.below hb h1.lt, h2.below hb h2.lt, h3.below hb, h4.trans (hb.mono h4.size)⟩

set_option maxRecDepth 100000 in
set_option maxHeartbeats 40000000 in
theorem main4 (a : Option Addr) (c : Nat) (L : List Pl) (name parent base pushed : ByteArray) (pr fst pos : Int) (x : Pl) (w : World) (hL : IsPls w a L) (hnil : a = none → L = [] ∧ c = 0) (hl : L.length ≤ maxLen) (hok : ∀ p ∈ L, p.ok) (hx : x.ok)
    (z1 : name.size ≤ maxLen) (z2 : parent.size ≤ maxLen) (z3 : base.size ≤ maxLen) (z4 : pushed.size ≤ maxLen) :
    Calls Try.prog 4 #[.slice a L.length c, .string name, .string parent, .string base, .int .i64 pr, .string pushed, .int .i64 fst, plV x, .int .i64 pos] w fun e w' => e = .returned (.bool true) ∧ Below w.heap.size w w' := by
  have HL : Hid (IsPls w a L) := hL
  have HNIL : Hid (a = none → L = [] ∧ c = 0) := hnil
  have Z : Hid (L.length ≤ maxLen ∧ (∀ p ∈ L, p.ok) ∧ name.size ≤ maxLen ∧ parent.size ≤ maxLen ∧ base.size ≤ maxLen ∧ pushed.size ≤ maxLen ∧ x.ok) := ⟨hl, hok, z1, z2, z3, z4, hx⟩
  unfold maxLen at hl
  clear hL hnil hok z1 z2 z3 z4 hx
  obtain ⟨i0, hi, hz0, hz1, hz2⟩ := info_parts Try.info28
  unfold plV
  go_enter Try.func4, Try.ntmps4
  go_upto_region 1 with fail
  obtain ⟨W0, hW0⟩ : ∃ W0, W0 = w.alloc (.cells #[.int .i64 x.num, .string x.title, .string x.state, .bool x.merged, .string x.head, .string x.hsha, .string x.base, .string x.msha, .string x.url, .int .i64 x.stack] 33) := ⟨_, rfl⟩
  rw [← hW0]
  have HX0 : Hid (PlAt W0 w.heap.size 0 x) := by rw [hW0]; unfold PlAt; simp [Hid]
  have HB0 : Hid (Below w.heap.size w W0) := by rw [hW0]; exact below_alloc _ _
  clear hW0
  generalize hX : w.heap.size = X at *
  have HX : Hid (w.heap.size = X) := hX
  clear hX
  have HXl : Hid (X < W0.heap.size) := HX0.out.lt
  obtain ⟨x0, x1, x2, x3, x4, x5, x6, x7, x8, x9⟩ := HX0.out.zero
  go_wp2_with fail
  refine (fits11 a c L name parent base pushed pr fst pos x W0 (HL.out.below (by rw [HX.out]; exact HB0.out)) Z.out.1 Z.out.2.1 Z.out.2.2.2.2.2.2 Z.out.2.2.1 Z.out.2.2.2.1 Z.out.2.2.2.2.1 Z.out.2.2.2.2.2.1).mono ?_
  rintro e w1 ⟨⟨b, rfl⟩, hb1⟩
  clear x0 x1 x2 x3 x4 x5 x6 x7 x8 x9
  have HB1 : Hid (Below w.heap.size w w1) := by
    have h0 := HB0.out
    rw [← HX.out] at h0
    exact h0.trans (hb1.mono h0.size)
  have HX1 : Hid (PlAt w1 X 0 x) := HX0.out.below hb1 HXl.out
  clear HB0 HX0 HXl hb1 W0
  cases b with
  | false =>
    go_wp2
    go_ret
    exact ⟨rfl, HB1.out⟩
  | true =>
    by_cases hlen : 4096 < L.length
    · go_wp2
      go_ret
      exact ⟨rfl, HB1.out⟩
    have hle : L.length ≤ 4096 := by omega
    clear hlen
    have HXl : Hid (X < w1.heap.size) := HX1.out.lt
    obtain ⟨x0, x1, x2, x3, x4, x5, x6, x7, x8, x9⟩ := HX1.out.zero
    go_upto_region 5 with fail
    go_cut [53] (fun d wx => ∃ r : Int, d = .bool (decide (r < 0)) ∧ Hid (Below w.heap.size w wx ∧ PlAt wx X 0 x))
    case first =>
      have hXl2 : X < w1.heap.size := HXl.out
      go_region_with (first
        | (go_at_call 7
           refine (bytes7 a c L name parent base pushed w1.drew (HL.out.below HB1.out.drew) hle Z.out.2.1 Z.out.2.2.1 Z.out.2.2.2.1 Z.out.2.2.2.2.1 Z.out.2.2.2.2.2.1).mono ?_
           rintro e w2 ⟨⟨r2, rfl, r20, r21⟩, hb2⟩
           have HB2 : Hid (Below w.heap.size w w2) := HB1.out.drew.trans (hb2.mono HB1.out.size)
           have HX2 : Hid (PlAt w2 X 0 x) := PlAt.below (w := w1.drew) HX1.out hb2 HXl.out
           clear hb2
           obtain ⟨y0, y1, y2, y3, y4, y5, y6, y7, y8, y9⟩ := HX2.out.zero)
        | (go_at_call 12
           refine (bytes12u r2 x w2 (by omega) (by omega) Z.out.2.2.2.2.2.2).mono ?_
           rintro e w3 ⟨⟨r3, rfl, r30, r31⟩, hb3⟩
           have HB3 : Hid (Below w.heap.size w w3) := HB2.out.trans (hb3.mono HB2.out.size)
           have HX3 : Hid (PlAt w3 X 0 x) := HX2.out.below hb3 HX2.out.lt
           clear hb3))
      all_goals
        (go_wp2
         go_meet
         case rel => exact ⟨r3, rfl, HB3.out, HX3.out⟩)
    case rest =>
      obtain ⟨r, rfl, hbx⟩ := hcut
      clear HB1 HX1 HXl x0 x1 x2 x3 x4 x5 x6 x7 x8 x9
      have HB1 : Hid (Below w.heap.size w wc) := hbx.out.1
      have HX1 : Hid (PlAt wc X 0 x) := hbx.out.2
      clear hbx
      by_cases hr : r < 0
      · go_wp2
        go_ret
        exact ⟨rfl, HB1.out⟩
      by_cases hp0 : pos < 0
      · go_wp2
        go_ret
        exact ⟨rfl, HB1.out⟩
      by_cases hp1 : (L.length : Int) < pos
      · go_wp2
        go_ret
        exact ⟨rfl, HB1.out⟩
      obtain ⟨P, rfl⟩ : ∃ P : Nat, pos = P := ⟨pos.toNat, by omega⟩
      have hP : P ≤ L.length := by omega
      clear hp0 hp1
      obtain ⟨x0, x1, x2, x3, x4, x5, x6, x7, x8, x9⟩ := HX1.out.zero
      cases hA : (x.head.toList == name.toList) with
      | true =>
        go_wp2
        go_ret
        exact ⟨rfl, HB1.out⟩
      | false =>
        have HXN : Hid (eqs x.head name = false) := hA
        go_upto_region 12 with fail
        obtain ⟨W1, hW1⟩ : ∃ W1, W1 = wc.alloc (.cells #[.string parent, .string base, .int .i64 pr, .string pushed, .int .i64 fst] 26) := ⟨_, rfl⟩
        rw [← hW1]
        have HT1 : Hid (BrAt W1 wc.heap.size parent base pushed pr fst) := by rw [hW1]; unfold BrAt; simp [Hid]
        have HBW : Hid (Below w.heap.size w W1) := by rw [hW1]; exact HB1.out.trans ((below_alloc _ _).mono HB1.out.size)
        have HXW : Hid (PlAt W1 X 0 x) := by rw [hW1]; exact HX1.out.below (below_alloc _ _) HX1.out.lt
        clear hW1 HB1 HX1 x0 x1 x2 x3 x4 x5 x6 x7 x8 x9
        generalize wc.heap.size = T at *
        have HTl : Hid (T < W1.heap.size) := World.block_lt_of_cell? W1 _ HT1.out.1
        go_wp2_with fail
        refine (pulls9 a c L W1 (HL.out.below HBW.out) HNIL.out hle).mono ?_
        rintro e WM ⟨a5, rfl, ho5, hb5⟩
        have HEV : Hid (Env4 w WM X T x parent base pushed pr fst a a5 L) :=
          ⟨HXW.out.below hb5 HXW.out.lt, HT1.out.below hb5 HTl.out, (HL.out.below HBW.out).below hb5, ho5.is, HBW.out.trans (hb5.mono HBW.out.size), by have := HXW.out.lt; have := hb5.size; omega, by have := HTl.out; have := hb5.size; omega⟩
        clear ho5 hb5 HT1 HBW HXW HTl HNIL Z HL
        go_upto_block 0 with (at_make; refine wpList_make_own _ rfl (.const (.int .i64 0)) (.tmp 76) 31 rfl WM.heap.size 28 i0 _ 10 Try.underlying31 hi hz0 hz1 .i64 .i64 _ (L.length + 1) rfl rfl (by omega) (by rw [hz2]; omega) (by unfold maxLen; omega) (Nat.le_refl _) ?_; intro w4 hown4 hgr4)
        have HB4 : Hid (Below WM.heap.size WM w4) := (Below.refl _ _).grown hgr4 (Nat.le_refl _) (by simp)
        have HO4 : Hid (w4.ownsRow WM.heap.size 28 10 (.slice (some ⟨WM.heap.size, 0, none⟩) 0 (L.length + 1)) 0 []) := hown4
        clear hown4 hgr4
        go_cut [21, 22] (fun v _ wx => Hid (wx.ownsRow WM.heap.size 28 10 v P ((L.take P).flatMap plCells)) ∧ Hid (Below WM.heap.size WM wx))
        case first =>
          go_wp2_with fail
          go_loopw [21, 22] (fun v i wr => ∃ j : Nat, j ≤ P ∧ i = .int .i64 j ∧ Hid (wr.ownsRow WM.heap.size 28 10 v j ((L.take j).flatMap plCells)) ∧ Hid (Below WM.heap.size WM wr)) (fun _ i _ => P - (intOf i).toNat)
          case atStart => exact ⟨0, Nat.zero_le _, rfl, by simpa [Hid] using HO4.out, HB4⟩
          case round =>
            obtain ⟨j, hj, rfl, hown, hbel⟩ := hrel
            clear HO4 HB4
            by_cases hlt : j < P
            · have hjl : j < L.length := by omega
              obtain ⟨b, off, rfl, hp⟩ := (HEV.out.2.2.2.1.below hbel.out).at j hjl
              have HT : Hid (L.take (j + 1) = L.take j ++ [L[j]'hjl]) := by rw [List.take_succ_eq_append_getElem hjl]; rfl
              generalize (L[j]'hjl) = p at *
              obtain ⟨p0, p1, p2, p3, p4, p5, p6, p7, p8, p9⟩ := hp
              go_wp2_with (at_builtin; refine wpList_append_own _ rfl (.tmp 83) (.tmp 88) 31 rfl WM.heap.size 28 i0 _ 10 136 Try.underlying31 hi hz0 hz1 hz2 rfl (by decide) u21 j ((L.take j).flatMap plCells) rfl (hown.out.alloc _) ⟨wr.heap.size, 0, none⟩ 1 1 (plCells p) rfl rfl (ten_cells wr p 28) (by simp [plCells, Value.oneCell']) (by unfold maxLen; omega) (by omega) (by have := hbel.out.size; simp; omega) ?_; intro v' w6 hown6 hgr6 _)
              have HB6 : Hid (Below WM.heap.size WM w6) := append_below hbel.out hown.out hgr6
              have HO6 : Hid (w6.ownsRow WM.heap.size 28 10 v' (j + 1) ((L.take (j + 1)).flatMap plCells)) := by
                rw [HT.out]
                have e : (L.take j ++ [p] : List Pl).flatMap plCells = (L.take j).flatMap plCells ++ plCells p := by rw [List.flatMap_append]; simp
                rw [e]
                exact hown6
              clear hown6 hgr6 hown hbel
              go_roundw
              case rel => exact ⟨j + 1, by omega, by go_num, HO6, HB6⟩
              case measure => simp [intOf]; omega
            · have HF : Hid (wr.ownsRow WM.heap.size 28 10 u21 P ((L.take P).flatMap plCells)) := by
                have := hown.out
                have e : j = P := by omega
                rwa [e] at this
              clear hown
              go_wp2
              go_meet
              case rel => exact ⟨HF, hbel⟩
        case rest =>
          obtain ⟨ho, hb⟩ := hcut
          clear HO4 HB4
          have HEc : Hid (Env4 w wc X T x parent base pushed pr fst a a5 L) := HEV.out.below hb.out
          obtain ⟨x0, x1, x2, x3, x4, x5, x6, x7, x8, x9⟩ := HEc.out.1.zero
          go_wp2_with fail
          refine (pull13u x wc).mono ?_
          rintro e w5 ⟨rfl, hw5⟩
          have HB5 : Hid (Below WM.heap.size WM w5) := by rw [hw5]; exact hb.out.trans (((below_alloc _ _).alloc (by simp) _).mono hb.out.size)
          have HO5 : Hid (w5.ownsRow WM.heap.size 28 10 u21 P ((L.take P).flatMap plCells)) := by rw [hw5]; exact own_below ho.out ((below_alloc _ _).alloc (by simp) _)
          clear hw5 x0 x1 x2 x3 x4 x5 x6 x7 x8 x9 ho hb HEc
          go_upto_block 2 with (at_builtin; refine wpList_append_own _ rfl (.tmp 90) (.tmp 93) 31 rfl WM.heap.size 28 i0 _ 10 136 Try.underlying31 hi hz0 hz1 hz2 rfl (by decide) u21 P ((L.take P).flatMap plCells) rfl (HO5.out.alloc _) ⟨w5.heap.size, 0, none⟩ 1 1 (plCells x) rfl rfl (ten_cells w5 x 28) (by simp [plCells, Value.oneCell']) (by unfold maxLen; omega) (by omega) (by have := HB5.out.size; simp; omega) ?_; intro v' w6 hown6 hgr6 _)
          have HB6 : Hid (Below WM.heap.size WM w6) := append_below HB5.out HO5.out hgr6
          have HO6 : Hid (w6.ownsRow WM.heap.size 28 10 v' (P + 1 + 0) ((wth L P x 0).flatMap plCells)) := by
            have e : (wth L P x 0).flatMap plCells = (L.take P).flatMap plCells ++ plCells x := by unfold wth; rw [List.take_zero, List.append_nil, List.flatMap_append]; simp
            rw [e]
            exact hown6
          clear hown6 hgr6 HB5 HO5
          go_cut [21, 23] (fun v _ wx => Hid (wx.ownsRow WM.heap.size 28 10 v (L.length + 1) ((wth L P x (L.length - P)).flatMap plCells)) ∧ Hid (Below WM.heap.size WM wx))
          case first =>
            go_wp2_with fail
            go_loopw [21, 23] (fun v i wr => ∃ k : Nat, P ≤ k ∧ k ≤ L.length ∧ i = .int .i64 k ∧ Hid (wr.ownsRow WM.heap.size 28 10 v (k + 1) ((wth L P x (k - P)).flatMap plCells)) ∧ Hid (Below WM.heap.size WM wr)) (fun _ i _ => L.length - (intOf i).toNat)
            case atStart => exact ⟨P, Nat.le_refl _, hP, rfl, by rw [Nat.sub_self]; exact HO6, HB6⟩
            case round =>
              obtain ⟨k, hPk, hkl, rfl, hown, hbel⟩ := hrel
              clear HO6 HB6
              by_cases hlt : k < L.length
              · obtain ⟨b, off, rfl, hp⟩ := (HEV.out.2.2.2.1.below hbel.out).at k hlt
                have HT : Hid (wth L P x (k + 1 - P) = wth L P x (k - P) ++ [L[k]'hlt]) := wth_step x hPk hlt
                generalize (L[k]'hlt) = p at *
                obtain ⟨p0, p1, p2, p3, p4, p5, p6, p7, p8, p9⟩ := hp
                have hk0 : (0 : Int) ≤ (k : Int) := by omega
                have hk1 : (k : Int) < (L.length : Int) := by omega
                go_wp2_with (at_builtin; refine wpList_append_own _ rfl (.tmp 102) (.tmp 107) 31 rfl WM.heap.size 28 i0 _ 10 136 Try.underlying31 hi hz0 hz1 hz2 rfl (by decide) u21 (k + 1) ((wth L P x (k - P)).flatMap plCells) rfl (hown.out.alloc _) ⟨wr.heap.size, 0, none⟩ 1 1 (plCells p) rfl rfl (ten_cells wr p 28) (by simp [plCells, Value.oneCell']) (by unfold maxLen; omega) (by omega) (by have := hbel.out.size; simp; omega) ?_; intro v'' w7 hown7 hgr7 _)
                have HB7 : Hid (Below WM.heap.size WM w7) := append_below hbel.out hown.out hgr7
                have HO7 : Hid (w7.ownsRow WM.heap.size 28 10 v'' (k + 1 + 1) ((wth L P x (k + 1 - P)).flatMap plCells)) := by
                  rw [HT.out]
                  have e : (wth L P x (k - P) ++ [p] : List Pl).flatMap plCells = (wth L P x (k - P)).flatMap plCells ++ plCells p := by rw [List.flatMap_append]; simp
                  rw [e]
                  exact hown7
                clear hown7 hgr7 hown hbel
                go_roundw
                case rel => exact ⟨k + 1, by omega, by omega, by go_num, HO7, HB7⟩
                case measure => simp [intOf]; omega
              · have HF : Hid (wr.ownsRow WM.heap.size 28 10 u21 (L.length + 1) ((wth L P x (L.length - P)).flatMap plCells)) := by
                  have := hown.out
                  have e : k = L.length := by omega
                  rwa [e] at this
                clear hown
                go_wp2
                go_meet
                case rel => exact ⟨HF, hbel⟩
          case rest =>
            obtain ⟨ho, hb⟩ := hcut
            clear HO6 HB6
            have hwl : (wth L P x (L.length - P)).length = L.length + 1 := by rw [wth_length x hP (by omega)]; omega
            have HWL : Hid ((wth L P x (L.length - P)).length = L.length + 1) := hwl
            have ho2 := ho.out
            rw [← hwl] at ho2
            obtain ⟨aw, cw, rfl, hgw⟩ := own_pls ho2
            have HIW : Hid (IsPls wc aw (wth L P x (L.length - P))) := by
              rcases hgw with h | ⟨g, h1, h2⟩
              · exact .inl h
              · exact .inr ⟨g, 0, h1, h2⟩
            clear ho ho2 hgw hwl
            have HFW : Hid (flt name (wth L P x (L.length - P)) = flt name L) := wth_flt HXN.out
            generalize wth L P x (L.length - P) = LW at *
            have HEc : Hid (Env4 w wc X T x parent base pushed pr fst a a5 L) := HEV.out.below hb.out
            clear HEV hb
            obtain ⟨b0, b1, b2, b3, b4⟩ := HEc.out.2.1
            obtain ⟨⟨p, bb⟩, hr⟩ : ∃ r, pick parent pr (flt name L) = r := ⟨_, rfl⟩
            have HE : Hid (pick parent pr (flt name L) = (p, bb)) := hr
            clear hr
            go_wp2_with fail
            refine (zz8 a5 L.length L name parent base pushed pr fst wc HEc.out.2.2.2.1 (by omega)).mono ?_
            rintro e w7 ⟨he, hb7⟩
            rw [HE.out] at he
            unfold retPl plV at he
            subst he
            have HE7 : Hid (Env4 w w7 X T x parent base pushed pr fst a a5 L) := HEc.out.below hb7
            have HI7 : Hid (IsPls w7 aw LW) := HIW.out.below hb7
            clear HEc HIW hb7 b0 b1 b2 b3 b4
            go_upto_region 24 with fail
            obtain ⟨W8, hW8⟩ : ∃ W8, W8 = w7.alloc (.cells #[.int .i64 p.num, .string p.title, .string p.state, .bool p.merged, .string p.head, .string p.hsha, .string p.base, .string p.msha, .string p.url, .int .i64 p.stack] 28) := ⟨_, rfl⟩
            rw [← hW8]
            have HE8 : Hid (Env4 w W8 X T x parent base pushed pr fst a a5 L) := by rw [hW8]; exact HE7.out.below (below_alloc _ _)
            have HI8 : Hid (IsPls W8 aw LW) := by rw [hW8]; exact HI7.out.below (below_alloc _ _)
            have HG8 : Hid (PlAt W8 w7.heap.size 0 p) := by rw [hW8]; unfold PlAt; simp [Hid]
            clear hW8 HE7 HI7
            generalize w7.heap.size = G1 at *
            obtain ⟨b0, b1, b2, b3, b4⟩ := HE8.out.2.1
            go_wp2_with fail
            refine (zz8 aw cw LW name parent base pushed pr fst W8 HI8.out (by rw [HWL.out]; omega)).mono ?_
            rintro e w9 ⟨he, hb9⟩
            rw [HFW.out, HE.out] at he
            unfold retPl plV at he
            subst he
            have HE9 : Hid (Env4 w w9 X T x parent base pushed pr fst a a5 L) := HE8.out.below hb9
            have HG9 : Hid (PlAt w9 G1 0 p) := HG8.out.below hb9 HG8.out.lt
            clear HE8 HG8 HI8 hb9 b0 b1 b2 b3 b4
            go_upto_region 25 with fail
            obtain ⟨W10, hW10⟩ : ∃ W10, W10 = w9.alloc (.cells #[.int .i64 p.num, .string p.title, .string p.state, .bool p.merged, .string p.head, .string p.hsha, .string p.base, .string p.msha, .string p.url, .int .i64 p.stack] 28) := ⟨_, rfl⟩
            rw [← hW10]
            have HV : Hid (Env5 w W10 G1 w9.heap.size p a L) := by
              rw [hW10]
              exact ⟨HG9.out.below (below_alloc _ _) HG9.out.lt, by unfold PlAt; simp, HE9.out.2.2.1.below (below_alloc _ _), HE9.out.2.2.2.2.1.trans ((below_alloc _ _).mono HE9.out.2.2.2.2.1.size)⟩
            clear hW10 HE9 HG9
            generalize w9.heap.size = G2 at *
            go_upto_block 4 with fail
            go_cut [28, 29, 30] (fun m am _ wx => ∃ mb ab : Bool, m = .bool mb ∧ am = .bool ab ∧ Hid (mb = L.any (fun p => eqs p.head name)) ∧ Hid (∀ k (hk : k < L.length), eqs (L[k]'hk).head name = true → L[k]'hk = p → ab = true) ∧ Hid (Env5 w wx G1 G2 p a L))
            case first =>
              go_wp2_with fail
              go_loopw [28, 29, 30] (fun m am i wr => ∃ (j : Nat) (mb ab : Bool), j ≤ L.length ∧ i = .int .i64 j ∧ m = .bool mb ∧ am = .bool ab ∧ Hid (mb = (L.take j).any (fun p => eqs p.head name)) ∧ Hid (∀ k (hk : k < L.length), k < j → eqs (L[k]'hk).head name = true → L[k]'hk = p → ab = true) ∧ Hid (Env5 w wr G1 G2 p a L)) (fun _ _ i _ => L.length - (intOf i).toNat)
              case atStart => exact ⟨0, false, false, Nat.zero_le _, rfl, rfl, rfl, rfl, fun k hk h => by omega, HV⟩
              case round =>
                obtain ⟨j, mb, ab, hj, rfl, rfl, rfl, hmb, hab, hV⟩ := hrel
                clear HV
                by_cases hlt : j < L.length
                · obtain ⟨b, off, rfl, hq⟩ := hV.out.2.2.1.at j hlt
                  have HS : Hid ((L.take (j + 1)).any (fun p => eqs p.head name) = (mb || eqs (L[j]'hlt).head name)) := by rw [hmb.out]; exact any_succ hlt _
                  have HQ : Hid (L[j]'hlt = L[j]'hlt) := rfl
                  generalize hq0 : (L[j]'hlt) = q at *
                  clear HQ
                  have HQ : Hid (L[j]'hlt = q) := hq0
                  clear hq0
                  obtain ⟨q0, q1, q2, q3, q4, q5, q6, q7, q8, q9⟩ := hq
                  have hj0 : (0 : Int) ≤ (j : Int) := by omega
                  have hj1 : (j : Int) < (L.length : Int) := by omega
                  cases hA2 : (q.head.toList == name.toList) with
                  | false =>
                    have HM : Hid (mb = (L.take (j + 1)).any (fun p => eqs p.head name)) := by
                      rw [HS.out, show eqs q.head name = false from hA2, Bool.or_false]; rfl
                    have HN : Hid (∀ k (hk : k < L.length), k < j + 1 → eqs (L[k]'hk).head name = true → L[k]'hk = p → ab = true) := by
                      intro k hk hkj h1 h2
                      by_cases e : k = j
                      · subst e; rw [HQ.out] at h1; rw [show eqs q.head name = false from hA2] at h1; cases h1
                      · exact hab.out k hk (by omega) h1 h2
                    go_wp2
                    go_roundw
                    case rel => exact ⟨j + 1, mb, ab, by omega, by go_num, rfl, rfl, HM, HN, hV⟩
                    case measure => simp [intOf]; omega
                  | true =>
                    have HM : Hid (true = (L.take (j + 1)).any (fun p => eqs p.head name)) := by
                      rw [HS.out, show eqs q.head name = true from hA2, Bool.or_true]; rfl
                    obtain ⟨p0, p1, p2, p3, p4, p5, p6, p7, p8, p9⟩ := hV.out.1.zero
                    go_upto_region 32 with fail
                    go_region_with (first
                      | (go_at_call 10
                         refine (same10 p q wr.drew).mono ?_
                         rintro e w3 ⟨⟨b', rfl, hb'⟩, hw3⟩
                         have HV3 : Hid (Env5 w w3 G1 G2 p (some ⟨b, off, none⟩) L) := by
                           rw [hw3]
                           exact Env5.below (W := wr.drew) (W' := sameW p q wr.drew) (Env5.below (W := wr) (W' := wr.drew) hV.out (Below.refl _ _).drew) (sameW_below _ _ _)
                         have HBp : Hid (p = q → b' = true) := hb'
                         clear hw3 hb'))
                    all_goals
                      (clear hV p0 p1 p2 p3 p4 p5 p6 p7 p8 p9 q0 q1 q2 q3 q4 q5 q6 q7 q8 q9
                       cases b' with
                       | true =>
                         go_wp2
                         go_roundw
                         case rel => exact ⟨j + 1, true, true, by omega, by go_num, rfl, rfl, HM, fun _ _ _ _ _ => rfl, HV3⟩
                         case measure => simp [intOf]; omega
                       | false =>
                         have HN : Hid (∀ k (hk : k < L.length), k < j + 1 → eqs (L[k]'hk).head name = true → L[k]'hk = p → ab = true) := by
                           intro k hk hkj h1 h2
                           by_cases e : k = j
                           · subst e; rw [HQ.out] at h2; have := HBp.out h2.symm; cases this
                           · exact hab.out k hk (by omega) h1 h2
                         go_wp2
                         go_roundw
                         case rel => exact ⟨j + 1, true, ab, by omega, by go_num, rfl, rfl, HM, HN, HV3⟩
                         case measure => simp [intOf]; omega)
                · have HM : Hid (mb = L.any (fun p => eqs p.head name)) := by
                    have := hmb.out
                    rwa [List.take_of_length_le (by omega)] at this
                  have HN : Hid (∀ k (hk : k < L.length), eqs (L[k]'hk).head name = true → L[k]'hk = p → ab = true) := fun k hk => hab.out k hk (by omega)
                  go_wp2
                  go_meet
                  case rel => exact ⟨mb, ab, rfl, rfl, HM, HN, hV⟩
            case rest =>
              obtain ⟨mb, ab, rfl, rfl, hmb, hab, hV⟩ := hcut
              clear HV
              have hfound := pick_found parent pr name L
              rw [HE.out, ← hmb.out] at hfound
              have hfound : bb = mb := hfound
              subst hfound
              obtain ⟨p0, p1, p2, p3, p4, p5, p6, p7, p8, p9⟩ := hV.out.1.zero
              obtain ⟨q0, q1, q2, q3, q4, q5, q6, q7, q8, q9⟩ := hV.out.2.1.zero
              obtain ⟨bn, hneq, hbn⟩ := neq28 p p
              obtain rfl := hbn rfl
              clear hbn
              unfold plV at hneq
              cases bb with
              | true =>
                obtain ⟨k, hk, e1, e2⟩ := pick_mem HE.out
                obtain rfl := hab.out k hk e2 e1
                clear e1 e2
                go_wp2
                go_ret
                exact ⟨rfl, hV.out.2.2.2⟩
              | false =>
                have hz : p = zeroPl := pick_zero HE.out
                subst hz
                go_wp2_with fail
                refine (same10 zeroPl zeroPl wc).mono ?_
                rintro e w3 ⟨⟨b', rfl, hb'⟩, hw3⟩
                obtain rfl := hb' rfl
                have HB3 : Hid (Below w.heap.size w w3) := by rw [hw3]; exact hV.out.2.2.2.trans ((sameW_below _ _ _).mono hV.out.2.2.2.size)
                clear hw3 hb'
                go_wp2
                go_ret
                exact ⟨rfl, HB3.out⟩

end Go.Proofs.Qxb6619502a
