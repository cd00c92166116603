/-
  The law FnPullOfIsBestRankedMatch: the walk.
-/
import Derived.Test.Qxb6619502aPullOf
import Derived.Test.Qxb6619502aPullFits
import Derived.Test.Qxb6619502aPlainPull
import Derived.BigRegion
import Derived.Deep.RegionWith
namespace Go.Proofs.Qxb6619502a
open Go.RowKit

/-- The cells of the zero pull. -/
def Z28 : Array Value := #[.int .i64 0, .string ⟨#[]⟩, .string ⟨#[]⟩, .bool false, .string ⟨#[]⟩, .string ⟨#[]⟩, .string ⟨#[]⟩, .string ⟨#[]⟩, .string ⟨#[]⟩, .int .i64 0]

/-- The pull's block and the branch's, for the law. -/
def GotB (w wx : World) (v : Value) (r : Pl × Bool) (f : Value) : Prop := ∃ G, v = .pointer (some ⟨G, 0, none⟩) ∧ PlAt wx G 0 r.1 ∧ f = .bool r.2 ∧ Below w.heap.size w wx ∧ w.heap.size ≤ G

theorem gotA {w w6 : World} {p : Pl} {b : Bool} (h : Below w.heap.size w w6) : Hid (GotB w (w6.alloc (.cells #[.int .i64 p.num, .string p.title, .string p.state, .bool p.merged, .string p.head, .string p.hsha, .string p.base, .string p.msha, .string p.url, .int .i64 p.stack] 28)) (.pointer (some ⟨w6.heap.size, 0, none⟩)) (p, b) (.bool b)) :=
  ⟨_, rfl, by unfold PlAt; simp, rfl, h.trans ((below_alloc _ _).mono h.size), h.size⟩
theorem gotS {w w6 : World} {p : Pl} {b : Bool} {G : Nat} (h : Below w.heap.size w w6) (hr : Room w6 G 10) (hG : w.heap.size ≤ G) : Hid (GotB w ((((((((((w6.setCell ⟨G, 0, none⟩ (.int .i64 p.num)).setCell ⟨G, 1, none⟩ (.string p.title)).setCell ⟨G, 2, none⟩ (.string p.state)).setCell ⟨G, 3, none⟩ (.bool p.merged)).setCell ⟨G, 4, none⟩ (.string p.head)).setCell ⟨G, 5, none⟩ (.string p.hsha)).setCell ⟨G, 6, none⟩ (.string p.base)).setCell ⟨G, 7, none⟩ (.string p.msha)).setCell ⟨G, 8, none⟩ (.string p.url)).setCell ⟨G, 9, none⟩ (.int .i64 p.stack)) (.pointer (some ⟨G, 0, none⟩)) (p, b) (.bool b)) :=
  show GotB w (stores w6 G 0 (plCells p)) (.pointer (some ⟨G, 0, none⟩)) (p, b) (.bool b) from ⟨_, rfl, (stores_row G 10 _ _ _ hr (by rw [plCells_length]; omega)).pl, rfl, stores_below hG _ _ _ h, hG⟩

theorem first_world (W w' : World) (h : w' = W.drew ∨ ∃ o, w' = W.drew.alloc o) : Below W.heap.size W w' := by
  rcases h with rfl | ⟨o, rfl⟩
  · exact (Below.refl _ _).drew
  · exact (Below.refl _ _).drew.alloc (Nat.le_refl _) o

theorem mid_world {W cur w' : World} (h : cur = W.drew ∨ ∃ o, cur = W.drew.alloc o) (hb : Below cur.heap.size cur w') : Below W.heap.size W w' := by
  have := first_world W cur h
  exact this.trans (hb.mono this.size)

set_option maxRecDepth 100000 in
set_option maxHeartbeats 40000000 in
theorem main3 (a : Option Addr) (c : Nat) (L : List Pl) (name parent base pushed : ByteArray) (pr fst : Int) (w : World) (hL : IsPls w a L) (hnil : a = none → L = [] ∧ c = 0) (hl : L.length ≤ maxLen) (hok : ∀ p ∈ L, p.ok)
    (z1 : name.size ≤ maxLen) (z2 : parent.size ≤ maxLen) (z3 : base.size ≤ maxLen) (z4 : pushed.size ≤ maxLen) :
    Calls Try.prog 3 #[.slice a L.length c, .string name, .string parent, .string base, .int .i64 pr, .string pushed, .int .i64 fst] w fun e w' => e = .returned (.bool true) ∧ Below w.heap.size w w' := by
  have HL : Hid (IsPls w a L) := hL
  have HNIL : Hid (a = none → L = [] ∧ c = 0) := hnil
  have Z : Hid (L.length ≤ maxLen ∧ (∀ p ∈ L, p.ok) ∧ name.size ≤ maxLen ∧ parent.size ≤ maxLen ∧ base.size ≤ maxLen ∧ pushed.size ≤ maxLen) := ⟨hl, hok, z1, z2, z3, z4⟩
  unfold maxLen at hl
  clear hL hnil hok z1 z2 z3 z4
  go_enter Try.func3, Try.ntmps3
  go_wp2_with fail
  refine (fits6 a c L name parent base pushed pr fst w HL.out Z.out.1 Z.out.2.1 Z.out.2.2.1 Z.out.2.2.2.1 Z.out.2.2.2.2.1 Z.out.2.2.2.2.2).mono ?_
  rintro e w1 ⟨⟨b, rfl⟩, rfl⟩
  cases b with
  | false =>
    go_wp2
    go_ret
    exact ⟨rfl, Below.refl _ _⟩
  | true =>
    by_cases hlen : 4096 < L.length
    · go_wp2
      go_ret
      exact ⟨rfl, Below.refl _ _⟩
    have hle : L.length ≤ 4096 := by omega
    clear hlen
    go_wp2_with fail
    refine (bytes7 a c L name parent base pushed w1 HL.out hle Z.out.2.1 Z.out.2.2.1 Z.out.2.2.2.1 Z.out.2.2.2.2.1 Z.out.2.2.2.2.2).mono ?_
    rintro e w2 ⟨⟨r, rfl, r0, r1⟩, hb2⟩
    have HB2 : Hid (Below w1.heap.size w1 w2) := hb2
    clear hb2 Z
    by_cases hr : r < 0
    · go_wp2
      go_ret
      exact ⟨rfl, HB2.out⟩
    go_upto_region 8 with fail
    obtain ⟨W, hW⟩ : ∃ W, W = w2.alloc (.cells #[.string parent, .string base, .int .i64 pr, .string pushed, .int .i64 fst] 26) := ⟨_, rfl⟩
    rw [← hW]
    have b0 : W.cell? ⟨w2.heap.size, 0, none⟩ = some (.string parent) := by rw [hW]; simp
    have b1 : W.cell? ⟨w2.heap.size, 1, none⟩ = some (.string base) := by rw [hW]; simp
    have b2 : W.cell? ⟨w2.heap.size, 2, none⟩ = some (.int .i64 pr) := by rw [hW]; simp
    have b3 : W.cell? ⟨w2.heap.size, 3, none⟩ = some (.string pushed) := by rw [hW]; simp
    have b4 : W.cell? ⟨w2.heap.size, 4, none⟩ = some (.int .i64 fst) := by rw [hW]; simp
    have HBW : Hid (Below w1.heap.size w1 W) := by rw [hW]; exact HB2.out.trans ((below_alloc _ _).mono HB2.out.size)
    clear hW HB2
    have HLW : Hid (IsPls W a L) := HL.out.below HBW.out
    generalize w2.heap.size = T at *
    have bT : T < W.heap.size := World.block_lt_of_cell? W _ b0
    clear r0 r1 hr
    go_cut [16, 17] (fun v f wx => Hid (GotB w1 wx v (pick parent pr (flt name L)) f))
    case first =>
      have HEE : Hid (pick parent pr (flt name L) = pick parent pr (flt name L)) := rfl
      generalize hr : pick parent pr (flt name L) = r at *
      clear HEE
      have HE : Hid (pick parent pr (flt name L) = r) := hr
      clear hr
      obtain ⟨p, bb⟩ := r
      go_region_with (first
        | (go_at_call 9
           refine (pulls9 a c L W.drew (HLW.out.below (first_world W _ (.inl rfl))) HNIL.out hle).mono ?_
           rintro e w5 ⟨a5, rfl, ho5, hb5⟩
           have hB5 : Hid (Below W.heap.size W w5) := mid_world (.inl rfl) hb5
           have hI5 : Hid (IsPls w5 a5 L) := ho5.is
           clear hb5 ho5
           have c0 : w5.cell? ⟨T, 0, none⟩ = some (.string parent) := (bel_cell hB5.out bT 0).trans b0
           have c1 : w5.cell? ⟨T, 1, none⟩ = some (.string base) := (bel_cell hB5.out bT 1).trans b1
           have c2 : w5.cell? ⟨T, 2, none⟩ = some (.int .i64 pr) := (bel_cell hB5.out bT 2).trans b2
           have c3 : w5.cell? ⟨T, 3, none⟩ = some (.string pushed) := (bel_cell hB5.out bT 3).trans b3
           have c4 : w5.cell? ⟨T, 4, none⟩ = some (.int .i64 fst) := (bel_cell hB5.out bT 4).trans b4
           have bT5 : T < w5.heap.size := World.block_lt_of_cell? w5 _ c0)
        | (go_at_call 9
           refine (pulls9 a c L (W.drew.alloc (.cells Z28 28)) (HLW.out.below (first_world W _ (.inr ⟨_, rfl⟩))) HNIL.out hle).mono ?_
           rintro e w5 ⟨a5, rfl, ho5, hb5⟩
           have hB5 : Hid (Below W.heap.size W w5) := mid_world (.inr ⟨_, rfl⟩) hb5
           have hI5 : Hid (IsPls w5 a5 L) := ho5.is
           have hR5 : Hid (Room w5 W.heap.size 10) := (Room.made W.drew Z28 28 10 rfl).below hb5 (by simp)
           clear hb5 ho5
           have c0 : w5.cell? ⟨T, 0, none⟩ = some (.string parent) := (bel_cell hB5.out bT 0).trans b0
           have c1 : w5.cell? ⟨T, 1, none⟩ = some (.string base) := (bel_cell hB5.out bT 1).trans b1
           have c2 : w5.cell? ⟨T, 2, none⟩ = some (.int .i64 pr) := (bel_cell hB5.out bT 2).trans b2
           have c3 : w5.cell? ⟨T, 3, none⟩ = some (.string pushed) := (bel_cell hB5.out bT 3).trans b3
           have c4 : w5.cell? ⟨T, 4, none⟩ = some (.int .i64 fst) := (bel_cell hB5.out bT 4).trans b4
           have bT5 : T < w5.heap.size := World.block_lt_of_cell? w5 _ c0)
        | (go_at_call 8
           refine (zz8 _ _ L name parent base pushed pr fst w5 hI5.out (by omega)).mono ?_
           rintro e w6 ⟨he, hb6⟩
           have hRW6 : Hid (Room w6 W.heap.size 10) := hR5.out.below hb6 (hR5.out.lt (by omega))
           have hB6 : Hid (Below w1.heap.size w1 w6) := HBW.out.trans ((hB5.out.trans (hb6.mono hB5.out.size)).mono HBW.out.size)
           rw [HE.out] at he
           unfold retPl plV at he
           subst he
           clear hb6
           obtain ⟨⟨v0, s0⟩, ⟨v1, s1⟩, ⟨v2, s2⟩, ⟨v3, s3⟩, ⟨v4, s4⟩, ⟨v5, s5⟩, ⟨v6, s6⟩, ⟨v7, s7⟩, ⟨v8, s8⟩, ⟨v9, s9⟩⟩ := cells10 hRW6.out
           obtain ⟨f0, f1, f2, f3, f4, f5, f6, f7, f8, f9⟩ := free10 hRW6.out)
        | (go_at_call 8
           refine (zz8 _ _ L name parent base pushed pr fst w5 hI5.out (by omega)).mono ?_
           rintro e w6 ⟨he, hb6⟩
           have hB6 : Hid (Below w1.heap.size w1 w6) := HBW.out.trans ((hB5.out.trans (hb6.mono hB5.out.size)).mono HBW.out.size)
           rw [HE.out] at he
           unfold retPl plV at he
           subst he
           clear hb6)
        | (go_at_call 8
           refine (zz8 _ _ L name parent base pushed pr fst (w5.alloc (.cells Z28 28)) (hI5.out.below (below_alloc _ _)) (by omega)).mono ?_
           rintro e w6 ⟨he, hb6⟩
           have hR56 : Hid (Room w6 w5.heap.size 10) := (Room.made w5 Z28 28 10 rfl).below hb6 (by simp)
           have hB6 : Hid (Below w1.heap.size w1 w6) := HBW.out.trans ((hB5.out.trans (((below_alloc w5 _).trans (hb6.mono (by simp))).mono hB5.out.size)).mono HBW.out.size)
           rw [HE.out] at he
           unfold retPl plV at he
           subst he
           clear hb6
           obtain ⟨⟨v0, s0⟩, ⟨v1, s1⟩, ⟨v2, s2⟩, ⟨v3, s3⟩, ⟨v4, s4⟩, ⟨v5, s5⟩, ⟨v6, s6⟩, ⟨v7, s7⟩, ⟨v8, s8⟩, ⟨v9, s9⟩⟩ := cells10 hR56.out
           obtain ⟨f0, f1, f2, f3, f4, f5, f6, f7, f8, f9⟩ := free10 hR56.out))
      all_goals
        (go_wp2
         go_meet
         case rel =>
           first
           | with_reducible exact gotA hB6.out
           | with_reducible exact gotS hB6.out hRW6.out HBW.out.size
           | with_reducible exact gotS hB6.out hR56.out (Nat.le_trans HBW.out.size hB5.out.size))
    case rest =>
      obtain ⟨G, rfl, hG, rfl, hBc, hGw⟩ := hcut.out
      clear hcut HBW HLW b0 b1 b2 b3 b4 bT
      have HBc : Hid (Below w1.heap.size w1 wc) := hBc
      have HGc : Hid (PlAt wc G 0 (pick parent pr (flt name L)).1) := hG
      have HLc : Hid (IsPls wc a L) := HL.out.below hBc
      clear hBc hG hGw
      have HEE : Hid (pick parent pr (flt name L) = pick parent pr (flt name L)) := rfl
      generalize hr : pick parent pr (flt name L) = rr at *
      clear HEE
      have HE : Hid (pick parent pr (flt name L) = rr) := hr
      clear hr
      go_upto_block 0 with fail
      go_cut [18, 19, 20, 21] (fun bv _ _ _ wx => wx = wc ∧ ∃ b r : Int, bv = .int .i64 b ∧ Hid (Best name parent pr L L.length b r))
      case first =>
        go_wp2_with fail
        go_loop [18, 19, 20, 21] (fun bv rv i _ => ∃ (j : Nat) (b r : Int), j ≤ L.length ∧ i = .int .i64 j ∧ bv = .int .i64 b ∧ rv = .int .i64 r ∧ Hid (Best name parent pr L j b r)) (fun _ _ i _ => L.length - (intOf i).toNat)
        case atStart => exact ⟨0, -1, 3, Nat.zero_le _, rfl, rfl, rfl, Best.start⟩
        case round =>
          obtain ⟨j, b, r, hj, rfl, rfl, rfl, hbest⟩ := hrel
          by_cases hlt : j < L.length
          · obtain ⟨bk, off, rfl, hp⟩ := HLc.out.at j hlt
            obtain ⟨g1, g2, g3, g4⟩ := hbest.out.range
            have HSk : Hid (eqs (L[j]'hlt).head name = false → Best name parent pr L (j + 1) b r) := fun h => hbest.out.skip hlt h
            have HKp : Hid (eqs (L[j]'hlt).head name = true → r ≤ rankOf parent pr (L[j]'hlt) → Best name parent pr L (j + 1) b r) := fun h h2 => hbest.out.keep hlt h h2
            have HTk : Hid (eqs (L[j]'hlt).head name = true → rankOf parent pr (L[j]'hlt) < r → Best name parent pr L (j + 1) j (rankOf parent pr (L[j]'hlt))) := fun h h2 => hbest.out.take hlt h h2
            clear hbest
            generalize (L[j]'hlt) = p at *
            obtain ⟨p0, p1, p2, p3, p4, p5, p6, p7, p8, p9⟩ := hp
            cases hA : (p.head.toList == name.toList) with
            | false =>
              have HN : Hid (Best name parent pr L (j + 1) b r) := HSk.out hA
              go_wp2
              go_round
              case rel => exact ⟨j + 1, b, r, by omega, by go_num, rfl, rfl, HN⟩
              case measure => simp [intOf]; omega
            | true =>
              have hAA : eqs p.head name = true := hA
              cases hB : (p.base.toList == parent.toList) with
              | true =>
                have hrk : rankOf parent pr p = 0 := by unfold rankOf; rw [show eqs p.base parent = true from hB]; rfl
                rw [hrk] at HKp HTk
                by_cases hlt2 : 0 < r
                · have HN : Hid (Best name parent pr L (j + 1) j 0) := HTk.out hAA hlt2
                  go_wp2
                  go_round
                  case rel => exact ⟨j + 1, j, 0, by omega, by go_num, rfl, rfl, HN⟩
                  case measure => simp [intOf]; omega
                · have HN : Hid (Best name parent pr L (j + 1) b r) := HKp.out hAA (by omega)
                  go_wp2
                  go_round
                  case rel => exact ⟨j + 1, b, r, by omega, by go_num, rfl, rfl, HN⟩
                  case measure => simp [intOf]; omega
              | false =>
                cases hC : (p.num == pr) with
                | true =>
                  have hrk : rankOf parent pr p = 1 := by unfold rankOf; rw [show eqs p.base parent = false from hB, hC]; rfl
                  rw [hrk] at HKp HTk
                  by_cases hlt2 : 1 < r
                  · have HN : Hid (Best name parent pr L (j + 1) j 1) := HTk.out hAA hlt2
                    go_wp2
                    go_round
                    case rel => exact ⟨j + 1, j, 1, by omega, by go_num, rfl, rfl, HN⟩
                    case measure => simp [intOf]; omega
                  · have HN : Hid (Best name parent pr L (j + 1) b r) := HKp.out hAA (by omega)
                    go_wp2
                    go_round
                    case rel => exact ⟨j + 1, b, r, by omega, by go_num, rfl, rfl, HN⟩
                    case measure => simp [intOf]; omega
                | false =>
                  have hrk : rankOf parent pr p = 2 := by unfold rankOf; rw [show eqs p.base parent = false from hB, hC]; rfl
                  rw [hrk] at HKp HTk
                  by_cases hlt2 : 2 < r
                  · have HN : Hid (Best name parent pr L (j + 1) j 2) := HTk.out hAA hlt2
                    go_wp2
                    go_round
                    case rel => exact ⟨j + 1, j, 2, by omega, by go_num, rfl, rfl, HN⟩
                    case measure => simp [intOf]; omega
                  · have HN : Hid (Best name parent pr L (j + 1) b r) := HKp.out hAA (by omega)
                    go_wp2
                    go_round
                    case rel => exact ⟨j + 1, b, r, by omega, by go_num, rfl, rfl, HN⟩
                    case measure => simp [intOf]; omega
          · have HN : Hid (Best name parent pr L L.length b r) := by
              have : j = L.length := by omega
              rw [← this]; exact hbest
            go_wp2
            go_meet
            case rel => exact ⟨rfl, b, r, rfl, HN⟩
      case rest =>
        obtain ⟨rfl, b, r, rfl, hbest⟩ := hcut
        obtain ⟨g1, g2, g3, g4⟩ := hbest.out.range
        by_cases hb : b < 0
        · have hz := hbest.out.nothing hb
          rw [HE.out] at hz
          subst hz
          have hp := HGc.out
          unfold PlAt at hp
          simp only [Nat.zero_add] at hp
          obtain ⟨p0, p1, p2, p3, p4, p5, p6, p7, p8, p9⟩ := hp
          go_wp2_with fail
          refine (same10 zeroPl zeroPl wc).mono ?_
          rintro e w3 ⟨⟨b', rfl, hb'⟩, hw3⟩
          obtain rfl := hb' rfl
          have HB3 : Hid (Below w1.heap.size w1 w3) := by rw [hw3]; exact HBc.out.trans ((sameW_below _ _ _).mono HBc.out.size)
          clear hw3 hb' p0 p1 p2 p3 p4 p5 p6 p7 p8 p9
          go_wp2
          go_ret
          exact ⟨rfl, HB3.out⟩
        · obtain ⟨k, hk, rfl, hz⟩ := hbest.out.found (by omega)
          rw [HE.out] at hz
          subst hz
          have hp := HGc.out
          unfold PlAt at hp
          simp only [Nat.zero_add] at hp
          obtain ⟨p0, p1, p2, p3, p4, p5, p6, p7, p8, p9⟩ := hp
          obtain ⟨bk, off, rfl, hq⟩ := HLc.out.at k hk
          obtain ⟨q0, q1, q2, q3, q4, q5, q6, q7, q8, q9⟩ := hq
          clear hbest HGc HLc HE
          generalize (L[k]'hk) = p at *
          have hk0 : (0 : Int) ≤ (k : Int) := by omega
          have hk1 : (k : Int) < (L.length : Int) := by omega
          go_upto_region 25 with fail
          go_region_with (first
            | (go_at_call 10
               refine (same10 p p wc.drew).mono ?_
               rintro e w3 ⟨⟨b', rfl, hb'⟩, hw3⟩
               obtain rfl := hb' rfl
               have HB3 : Hid (Below w1.heap.size w1 w3) := by rw [hw3]; exact HBc.out.drew.trans ((sameW_below _ _ _).mono HBc.out.size)
               clear hw3 hb'))
          all_goals
            (go_wp2
             go_ret
             exact ⟨rfl, HB3.out⟩)

end Go.Proofs.Qxb6619502a
