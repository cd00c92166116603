/-
  zzBytes_FnPullOfIsBestRankedMatch, zzBytes_FnPullOfIgnoresPullsOfOtherHeads: each answers yes or no.
-/
import Derived.Test.Qxb6619502aPullSmall
namespace Go.Proofs.Qxb6619502a
open Go.RowKit

/-- It answers yes or no. -/
def YesNo (e : Ending) : Prop := ∃ b : Bool, e = .returned (.bool b)

set_option maxRecDepth 100000 in
set_option maxHeartbeats 4000000 in
theorem fits6 (a : Option Addr) (c : Nat) (L : List Pl) (name parent base pushed : ByteArray) (pr fst : Int) (w : World) (hL : IsPls w a L) (hl : L.length ≤ maxLen) (hok : ∀ p ∈ L, p.ok)
    (z1 : name.size ≤ maxLen) (z2 : parent.size ≤ maxLen) (z3 : base.size ≤ maxLen) (z4 : pushed.size ≤ maxLen) :
    Calls Try.prog 6 #[.slice a L.length c, .string name, .string parent, .string base, .int .i64 pr, .string pushed, .int .i64 fst] w fun e w' => YesNo e ∧ w' = w := by
  unfold maxLen at z1 z2 z3 z4 hl
  have HL : Hid (IsPls w a L) := hL
  have HOK : Hid (∀ p ∈ L, p.ok) := hok
  clear hL hok
  go_enter Try.func6, Try.ntmps6
  by_cases hbig : 1048576 < L.length
  · go_wp2
    go_ret
    exact ⟨⟨_, rfl⟩, rfl⟩
  go_wp2_with fail
  go_loop [15, 16] (fun t i => ∃ (j : Nat) (r : Int), j ≤ L.length ∧ i = .int .i64 j ∧ t = .int .i64 r ∧ 0 ≤ r ∧ r ≤ 1048576) (fun _ i => L.length - (intOf i).toNat)
  case atStart => exact ⟨0, _, Nat.zero_le _, rfl, rfl, by omega, by omega⟩
  case round =>
    obtain ⟨j, r, hj, rfl, rfl, hr0, hr1⟩ := hrel
    by_cases hlt : j < L.length
    · obtain ⟨b, off, rfl, hp⟩ := HL.out.at j hlt
      have HP := HOK.out _ (List.getElem_mem hlt)
      generalize (L[j]'hlt) = p at *
      obtain ⟨y1, y2, y3, y4, y5, y6, y7⟩ := HP
      unfold maxLen at y1 y2 y3 y4 y5 y6 y7
      obtain ⟨p0, p1, p2, p3, p4, p5, p6, p7, p8, p9⟩ := hp
      go_wp2
      all_goals first
        | (go_ret; exact ⟨⟨_, rfl⟩, rfl⟩)
        | (go_round
           case rel => exact ⟨j + 1, _, by omega, by go_num, rfl, by omega, by omega⟩
           case measure => simp [intOf]; omega)
    · go_wp2
      all_goals (go_ret; exact ⟨⟨_, rfl⟩, rfl⟩)

set_option maxRecDepth 100000 in
set_option maxHeartbeats 4000000 in
theorem fits11 (a : Option Addr) (c : Nat) (L : List Pl) (name parent base pushed : ByteArray) (pr fst pos : Int) (x : Pl) (w : World) (hL : IsPls w a L) (hl : L.length ≤ maxLen) (hok : ∀ p ∈ L, p.ok) (hx : x.ok)
    (z1 : name.size ≤ maxLen) (z2 : parent.size ≤ maxLen) (z3 : base.size ≤ maxLen) (z4 : pushed.size ≤ maxLen) :
    Calls Try.prog 11 #[.slice a L.length c, .string name, .string parent, .string base, .int .i64 pr, .string pushed, .int .i64 fst, plV x, .int .i64 pos] w fun e w' => YesNo e ∧ Below w.heap.size w w' := by
  unfold maxLen at z1 z2 z3 z4 hl
  have HL : Hid (IsPls w a L) := hL
  have HOK : Hid (∀ p ∈ L, p.ok) := hok
  have HX : Hid (x.ok) := hx
  clear hL hok hx
  unfold plV
  go_enter Try.func11, Try.ntmps11
  by_cases hbig : 1048576 < L.length
  · go_wp2
    go_ret
    exact ⟨⟨_, rfl⟩, below_alloc _ _⟩
  go_upto_region 1 with fail
  obtain ⟨W, hW⟩ : ∃ W, W = w.alloc (.cells #[.int .i64 x.num, .string x.title, .string x.state, .bool x.merged, .string x.head, .string x.hsha, .string x.base, .string x.msha, .string x.url, .int .i64 x.stack] 33) := ⟨_, rfl⟩
  rw [← hW]
  have HBW : Hid (Below w.heap.size w W) := by rw [hW]; exact below_alloc _ _
  have HXA : Hid (PlAt W w.heap.size 0 x) := by rw [hW]; unfold PlAt; simp [Hid]
  have HL2 : Hid (IsPls W a L) := HL.out.below HBW.out
  clear hW HL
  generalize hV : w.heap.size = V at *
  have HV : Hid (w.heap.size = V) := hV
  clear hV
  go_wp2_with fail
  go_loop [19, 20] (fun t i => ∃ (j : Nat) (r : Int), j ≤ L.length ∧ i = .int .i64 j ∧ t = .int .i64 r ∧ 0 ≤ r ∧ r ≤ 1048576) (fun _ i => L.length - (intOf i).toNat)
  case atStart => exact ⟨0, _, Nat.zero_le _, rfl, rfl, by omega, by omega⟩
  case round =>
    obtain ⟨j, r, hj, rfl, rfl, hr0, hr1⟩ := hrel
    by_cases hlt : j < L.length
    · obtain ⟨b, off, rfl, hp⟩ := HL2.out.at j hlt
      have HP := HOK.out _ (List.getElem_mem hlt)
      generalize (L[j]'hlt) = p at *
      obtain ⟨y1, y2, y3, y4, y5, y6, y7⟩ := HP
      unfold maxLen at y1 y2 y3 y4 y5 y6 y7
      obtain ⟨p0, p1, p2, p3, p4, p5, p6, p7, p8, p9⟩ := hp
      go_wp2
      all_goals first
        | (go_ret; exact ⟨⟨_, rfl⟩, by rw [HV.out]; exact HBW.out⟩)
        | (go_round
           case rel => exact ⟨j + 1, _, by omega, by go_num, rfl, by omega, by omega⟩
           case measure => simp [intOf]; omega)
    · obtain ⟨y1, y2, y3, y4, y5, y6, y7⟩ := HX.out
      unfold maxLen at y1 y2 y3 y4 y5 y6 y7
      have hp := HXA.out
      unfold PlAt at hp
      simp only [Nat.zero_add] at hp
      obtain ⟨p0, p1, p2, p3, p4, p5, p6, p7, p8, p9⟩ := hp
      go_wp2
      all_goals (go_ret; exact ⟨⟨_, rfl⟩, by rw [HV.out]; exact HBW.out⟩)

end Go.Proofs.Qxb6619502a
