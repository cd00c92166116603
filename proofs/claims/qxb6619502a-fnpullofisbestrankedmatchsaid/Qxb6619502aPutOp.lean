/-
  (*operation).putBack.
-/
import Derived.Test.Qxb6619502aPutBack
namespace Go.Proofs.Qxb6619502a
open Go.RowKit

def nilS : ByteArray := ⟨#[]⟩
def trU (H RH : ByteArray → ByteArray) (tf trunk : ByteArray) : List Upd := if !(eqs tf nilS) && eqs (H trunk) (RH trunk) then [⟨ref trunk, tf, RH trunk⟩] else []
def rmOf (H RH : ByteArray → ByteArray) (r : ByteArray) : List Upd := if eqs (H r) nilS then [⟨ref r, RH r, nilS⟩] else []
def rmU (H RH : ByteArray → ByteArray) (R : List ByteArray) : List Upd := R.flatMap (rmOf H RH)
def allU (H RH : ByteArray → ByteArray) (tf trunk : ByteArray) (M : List Mv) (R : List ByteArray) : List Upd := rbU H RH M ++ trU H RH tf trunk ++ rmU H RH R

theorem trU_length (H RH : ByteArray → ByteArray) (tf trunk : ByteArray) : (trU H RH tf trunk).length ≤ 1 := by unfold trU; split <;> simp
theorem rmU_length (H RH : ByteArray → ByteArray) (R : List ByteArray) : (rmU H RH R).length ≤ R.length := by
  unfold rmU
  induction R with
  | nil => simp
  | cons m M ih =>
    rw [List.flatMap_cons, List.length_append, List.length_cons]
    have : (rmOf H RH m).length ≤ 1 := by unfold rmOf; split <;> simp
    omega
theorem rmU_snoc (H RH : ByteArray → ByteArray) (R : List ByteArray) (r : ByteArray) : rmU H RH (R ++ [r]) = rmU H RH R ++ rmOf H RH r := by unfold rmU; simp

theorem nilS_toList : nilS.toList = [] := by rw [ByteArray.toList_eq]; rfl
theorem eqs_nil (a : ByteArray) : eqs a nilS = a.toList.isEmpty := by
  unfold eqs
  rw [nilS_toList]
  cases a.toList <;> rfl

set_option maxHeartbeats 1000000 in
/-- (*operation).putBack -/
theorem put21 (P : Nat) (mr mh : Option Nat) (am ar : Option Addr) (cr : Nat) (tf trunk : ByteArray) (M : List Mv) (R : List ByteArray) (Lr Lh : List (ByteArray × ByteArray)) (w : World)
    (p5 : w.cell? ⟨P, 5, none⟩ = some (.map mr)) (p6 : w.cell? ⟨P, 6, none⟩ = some (.slice am M.length M.length)) (p11 : w.cell? ⟨P, 11, none⟩ = some (.string tf)) (p12 : w.cell? ⟨P, 12, none⟩ = some (.slice ar R.length cr))
    (hM : IsMvs w am M) (hR : IsStrs w ar R) (hr : IsMap w mr Lr) (hh : IsMap w mh Lh) (hm : M.length ≤ 4096) (hrl : R.length ≤ 4096) (hz : Short trunk tf M R) :
    Calls Try.prog 21 #[.pointer (some ⟨P, 0, none⟩), .string trunk, .map mh] w fun e w' => ∃ v, e = .returned v ∧
      w'.ownsRow w.heap.size 49 3 v (allU (get Lh) (get Lr) tf trunk M R).length ((allU (get Lh) (get Lr) tf trunk M R).flatMap updCells) ∧ Below w.heap.size w w' := by
  have HRS : Hid (IsStrs w ar R) := hR
  have HR : Hid (IsMap w mr Lr) := hr
  have HH : Hid (IsMap w mh Lh) := hh
  obtain ⟨z1, z2, z3, z4⟩ := hz
  have HZ : Hid (∀ r ∈ R, r.size ≤ 1048576) := z4
  have bP : P < w.heap.size := World.block_lt_of_cell? w _ p5
  have HP : Hid (Calls Try.prog 22 #[.pointer (some ⟨P, 5, none⟩), .map mh] w fun e w' => ∃ v, e = .returned v ∧ w'.ownsRow w.heap.size 49 3 v (rbU (get Lh) (get Lr) M).length ((rbU (get Lh) (get Lr) M).flatMap updCells) ∧ Below w.heap.size w w') :=
    put22 P mr mh am M Lr Lh w p5 p6 hM hr hh hm z3
  clear hM hR hr hh z3 z4
  obtain ⟨i0, hi, hz0, hz1, hz2⟩ := info_parts Try.info49
  go_enter Try.func21, Try.ntmps21
  go_wp2_with fail
  refine HP.out.mono ?_
  rintro e w1 ⟨v, rfl, hown, hbel⟩
  have hown1 : Hid (w1.ownsRow w.heap.size 49 3 v (rbU (get Lh) (get Lr) M).length ((rbU (get Lh) (get Lr) M).flatMap updCells)) := hown
  have hb1 : Hid (Below w.heap.size w w1) := hbel
  have q5 : w1.cell? ⟨P, 5, none⟩ = some (.map mr) := (bel_cell hbel bP _).trans p5
  have q11 : w1.cell? ⟨P, 11, none⟩ = some (.string tf) := (bel_cell hbel bP _).trans p11
  have q12 : w1.cell? ⟨P, 12, none⟩ = some (.slice ar R.length cr) := (bel_cell hbel bP _).trans p12
  have l1 := (HR.out.below hbel HR.out.lt).look trunk
  have l2 := (HH.out.below hbel HH.out.lt).look trunk
  clear hown hbel p6 HP
  have hlen := rbU_length (get Lh) (get Lr) M
  generalize hU : rbU (get Lh) (get Lr) M = U at *
  have HU : Hid (rbU (get Lh) (get Lr) M = U) := hU
  clear hU
  go_upto_region 4 with fail
  go_cut [35] (fun d wx => wx = w1 ∧ d = .bool (!(eqs tf nilS) && eqs (get Lh trunk) (get Lr trunk)))
  case first =>
    by_cases ht : tf.toList = []
    · have ht2 : tf.toList.isEmpty = true := by rw [ht]; rfl
      have HC : Hid (false = (!(eqs tf nilS) && eqs (get Lh trunk) (get Lr trunk))) := by
        have : eqs tf nilS = true := by rw [eqs_nil]; exact ht2
        rw [this]; rfl
      go_wp2
      go_meet
      case rel => exact ⟨rfl, congrArg Value.bool HC.out⟩
    · have ht2 : tf.toList.isEmpty = false := by simpa using ht
      have HC : Hid (((get Lh trunk).toList == (get Lr trunk).toList) = (!(eqs tf nilS) && eqs (get Lh trunk) (get Lr trunk))) := by
        have : eqs tf nilS = false := by rw [eqs_nil]; exact ht2
        rw [this]; rfl
      go_wp2
      go_meet
      case rel => exact ⟨rfl, congrArg Value.bool HC.out⟩
  case rest =>
    obtain ⟨rfl, rfl⟩ := hcut
    go_upto_if 35 with fail
    go_cut [8] (fun v2 wx => Hid (wx.ownsRow w.heap.size 49 3 v2 (U ++ trU (get Lh) (get Lr) tf trunk).length ((U ++ trU (get Lh) (get Lr) tf trunk).flatMap updCells)) ∧ Hid (Below w.heap.size w wx))
    case first =>
      cases hc : (!(eqs tf nilS) && eqs (get Lh trunk) (get Lr trunk)) with
      | false =>
        have HN : Hid (U ++ trU (get Lh) (get Lr) tf trunk = U) := by unfold trU; rw [hc]; simp [Hid]
        go_wp2
        go_meet
        case rel => exact ⟨by rw [HN.out]; exact hown1, hb1⟩
      | true =>
        have HN : Hid (U ++ trU (get Lh) (get Lr) tf trunk = U ++ [⟨ref trunk, tf, get Lr trunk⟩]) := by unfold trU; rw [hc]; simp [Hid]
        go_wp2_with (at_builtin; refine wpList_append_own _ rfl (.tmp 36) (.tmp 45) 46 rfl w.heap.size 49 i0 _ 3 48 Try.underlying46 hi hz0 hz1 hz2 rfl (by decide) v U.length (U.flatMap updCells) rfl (hown1.out.alloc _) ⟨wc.heap.size, 0, none⟩ 1 1 [.string (ref trunk), .string tf, .string (get Lr trunk)] rfl rfl (three_cells wc _ _ _ 49) (by simp [Value.oneCell']) (by unfold maxLen; omega) (by omega) (by have := hb1.out.size; simp; omega) ?_; intro v' w4 hown4 hgr4 _)
        have HB4 : Hid (Below w.heap.size w w4) := append_below hb1.out hown1.out hgr4
        have HO4 : Hid (w4.ownsRow w.heap.size 49 3 v' (U ++ trU (get Lh) (get Lr) tf trunk).length ((U ++ trU (get Lh) (get Lr) tf trunk).flatMap updCells)) := by
          rw [HN.out]
          have e : (U ++ [⟨ref trunk, tf, get Lr trunk⟩] : List Upd).flatMap updCells = U.flatMap updCells ++ [.string (ref trunk), .string tf, .string (get Lr trunk)] := by rw [List.flatMap_append]; rfl
          rw [e, List.length_append]
          exact hown4
        clear hown4 hgr4 hown1
        go_meet
        case rel => exact ⟨HO4, HB4⟩
    case rest =>
      obtain ⟨hown2, hb2⟩ := hcut
      have hlt := trU_length (get Lh) (get Lr) tf trunk
      have r5 : wc.cell? ⟨P, 5, none⟩ = some (.map mr) := (bel_cell hb2.out bP _).trans p5
      have r12 : wc.cell? ⟨P, 12, none⟩ = some (.slice ar R.length cr) := (bel_cell hb2.out bP _).trans p12
      have HUT : Hid (U ++ trU (get Lh) (get Lr) tf trunk = rbU (get Lh) (get Lr) M ++ trU (get Lh) (get Lr) tf trunk) := by rw [HU.out]; rfl
      have hl2 : (U ++ trU (get Lh) (get Lr) tf trunk).length ≤ 4097 := by rw [List.length_append]; omega
      generalize U ++ trU (get Lh) (get Lr) tf trunk = U2 at *
      clear hown1 hb1 q5 q11 q12 l1 l2
      go_wp2_with fail
      go_loopw [8, 11, 52] (fun v2 _ i wr => ∃ j : Nat, j ≤ R.length ∧ i = .int .i64 j ∧ Hid (wr.ownsRow w.heap.size 49 3 v2 (U2 ++ rmU (get Lh) (get Lr) (R.take j)).length ((U2 ++ rmU (get Lh) (get Lr) (R.take j)).flatMap updCells)) ∧ Hid (Below w.heap.size w wr)) (fun _ _ i _ => R.length - (intOf i).toNat)
      case atStart =>
        refine ⟨0, Nat.zero_le _, rfl, ?_, hb2⟩
        rw [show U2 ++ rmU (get Lh) (get Lr) (R.take 0) = U2 by simp [rmU]]
        exact hown2
      case round =>
        obtain ⟨j, hj, rfl, hown, hbel⟩ := hrel
        clear hown2 hb2 r12
        by_cases hlt : j < R.length
        · obtain ⟨b, off, rfl, hmv⟩ : ∃ b off, ar = some ⟨b, off, none⟩ ∧ Strs wr b off R := by
            rcases HRS.out.below hbel.out with h | h
            · rw [h] at hlt; simp at hlt
            · exact h
          have c0 := hmv j hlt
          have zz := HZ.out (R[j]'hlt) (List.getElem_mem _)
          clear hmv
          have HT0 := List.take_succ_eq_append_getElem hlt
          generalize (R[j]'hlt) = r at *
          have HT : Hid (R.take (j + 1) = R.take j ++ [r]) := HT0
          clear HT0
          have q5 : wr.cell? ⟨P, 5, none⟩ = some (.map mr) := (bel_cell hbel.out bP _).trans p5
          have l1 := (HR.out.below hbel.out HR.out.lt).look r
          have l2 := (HH.out.below hbel.out HH.out.lt).look r
          have hlen3 := rmU_length (get Lh) (get Lr) (R.take j)
          rw [List.length_take] at hlen3
          have hl3 : (U2 ++ rmU (get Lh) (get Lr) (R.take j)).length ≤ 8193 := by rw [List.length_append]; omega
          have HS3 : Hid (U2 ++ rmU (get Lh) (get Lr) (R.take (j + 1)) = (U2 ++ rmU (get Lh) (get Lr) (R.take j)) ++ rmOf (get Lh) (get Lr) r) := by rw [HT.out, rmU_snoc, List.append_assoc]; rfl
          generalize U2 ++ rmU (get Lh) (get Lr) (R.take j) = U3 at *
          by_cases he : (get Lh r).toList = []
          · have he2 : (get Lh r).toList.isEmpty = true := by rw [he]; rfl
            have HN : Hid (U2 ++ rmU (get Lh) (get Lr) (R.take (j + 1)) = U3 ++ [⟨ref r, get Lr r, nilS⟩]) := by rw [HS3.out]; unfold rmOf; rw [eqs_nil, he2]; rfl
            go_wp2_with (at_builtin; refine wpList_append_own _ rfl (.tmp 60) (.tmp 70) 46 rfl w.heap.size 49 i0 _ 3 48 Try.underlying46 hi hz0 hz1 hz2 rfl (by decide) u8 U3.length (U3.flatMap updCells) rfl (hown.out.alloc _) ⟨wr.heap.size, 0, none⟩ 1 1 [.string (ref r), .string (get Lr r), .string nilS] rfl rfl (three_cells wr _ _ _ 49) (by simp [Value.oneCell']) (by unfold maxLen; omega) (by omega) (by have := hbel.out.size; simp; omega) ?_; intro v' w4 hown4 hgr4 _)
            have HB4 : Hid (Below w.heap.size w w4) := append_below hbel.out hown.out hgr4
            have HO4 : Hid (w4.ownsRow w.heap.size 49 3 v' (U2 ++ rmU (get Lh) (get Lr) (R.take (j + 1))).length ((U2 ++ rmU (get Lh) (get Lr) (R.take (j + 1))).flatMap updCells)) := by
              rw [HN.out]
              have e : (U3 ++ [⟨ref r, get Lr r, nilS⟩] : List Upd).flatMap updCells = U3.flatMap updCells ++ [.string (ref r), .string (get Lr r), .string nilS] := by rw [List.flatMap_append]; rfl
              rw [e, List.length_append]
              exact hown4
            clear hown4 hgr4 hown
            go_roundw
            case rel => exact ⟨j + 1, by omega, by go_num, HO4, HB4⟩
            case measure => simp [intOf]; omega
          · have he2 : (get Lh r).toList.isEmpty = false := by simpa using he
            have HN : Hid (U2 ++ rmU (get Lh) (get Lr) (R.take (j + 1)) = U3) := by rw [HS3.out]; unfold rmOf; rw [eqs_nil, he2]; simp [Hid]
            go_wp2
            go_roundw
            case rel => exact ⟨j + 1, by omega, by go_num, by rw [HN.out]; exact hown, hbel⟩
            case measure => simp [intOf]; omega
        · have HF : Hid (wr.ownsRow w.heap.size 49 3 u8 (allU (get Lh) (get Lr) tf trunk M R).length ((allU (get Lh) (get Lr) tf trunk M R).flatMap updCells)) := by
            have := hown.out
            rw [List.take_of_length_le (by omega), HUT.out] at this
            exact this
          clear hown
          go_wp2
          go_ret
          exact ⟨_, rfl, HF.out, hbel.out⟩

end Go.Proofs.Qxb6619502a
