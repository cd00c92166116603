/-
  (*rebuild).putBack.
-/
import Derived.Test.Qxb6619502aMoves
import Derived.Deep.CutBlock
import Derived.Deep.DeepCutAuto
namespace Go.Proofs.Qxb6619502a
open Go.RowKit

/-- An update of a branch. -/
structure Upd where
  ref : ByteArray
  new : ByteArray
  old : ByteArray
def updCells (u : Upd) : List Value := [.string u.ref, .string u.new, .string u.old]
theorem updCells_length (u : Upd) : (updCells u).length = 3 := rfl

/-- Go's == on strings. -/
def eqs (a b : ByteArray) : Bool := a.toList == b.toList
def ref (n : ByteArray) : ByteArray := ⟨#[114, 101, 102, 115, 47, 104, 101, 97, 100, 115, 47]⟩ ++ n

/-- What the rebuild's putBack answers of one move. -/
def rbOf (H RH : ByteArray → ByteArray) (m : Mv) : List Upd := if !(eqs (RH m.name) m.head) && eqs (H m.name) (RH m.name) then [⟨ref m.name, m.head, RH m.name⟩] else []
def rbU (H RH : ByteArray → ByteArray) (M : List Mv) : List Upd := M.flatMap (rbOf H RH)

theorem Try.info49 : (Try.prog.info? 49).map (fun i => (i.zero, i.size, i.bytes)) = some (some (.agg #[.string ⟨#[]⟩, .string ⟨#[]⟩, .string ⟨#[]⟩]), 3, 48) := by kernel_rfl

theorem rbOf_length (H RH : ByteArray → ByteArray) (m : Mv) : (rbOf H RH m).length ≤ 1 := by unfold rbOf; split <;> simp
theorem rbU_length (H RH : ByteArray → ByteArray) (M : List Mv) : (rbU H RH M).length ≤ M.length := by
  unfold rbU
  induction M with
  | nil => simp
  | cons m M ih => rw [List.flatMap_cons, List.length_append, List.length_cons]; have := rbOf_length H RH m; omega
theorem rbU_snoc (H RH : ByteArray → ByteArray) (M : List Mv) (m : Mv) : rbU H RH (M ++ [m]) = rbU H RH M ++ rbOf H RH m := by unfold rbU; simp

theorem rbOf_yes {H RH : ByteArray → ByteArray} {m : Mv} (h1 : ((RH m.name).toList == m.head.toList) = false) (h2 : ((H m.name).toList == (RH m.name).toList) = true) : rbOf H RH m = [⟨ref m.name, m.head, RH m.name⟩] := by
  unfold rbOf eqs; rw [h1, h2]; rfl
theorem rbOf_no {H RH : ByteArray → ByteArray} {m : Mv} (h : ((RH m.name).toList == m.head.toList) = true ∨ ((H m.name).toList == (RH m.name).toList) = false) : rbOf H RH m = [] := by
  unfold rbOf eqs
  rcases h with h | h <;> rw [h] <;> simp

/-- A new element of three cells in a block of its own. -/
theorem three_cells (w : World) (a b c : Value) (t : TypeId) : ∀ (j : Nat) (u : Value), [a, b, c][j]? = some u → (w.alloc (.cells #[a, b, c] t)).cell? ((⟨w.heap.size, 0, none⟩ : Addr).add j) = some u := by
  intro j u hu
  match j, hu with
  | 0, hu => simp at hu; subst hu; simp [Addr.add]
  | 1, hu => simp at hu; subst hu; simp [Addr.add]
  | 2, hu => simp at hu; subst hu; simp [Addr.add]
  | j + 3, hu => simp at hu

/-- Behind an append to the call's own row (or to nothing). -/
theorem append_below {w0 w w' : World} {o : Obj} {v : Value} {n : Nat} {xs : List Value} {e : TypeId} {sz : Nat} (h : Below w0.heap.size w0 w) (hown : w.ownsRow w0.heap.size e sz v n xs) (hg : (w.alloc o).grownBy w' v.ownBlock) : Below w0.heap.size w0 w' := by
  have h1 := h.alloc h.size o
  exact h1.grown hg h1.size (fun k hk => (hown.lt k hk).1)

theorem own_below {w0 w w' : World} {v : Value} {n : Nat} {xs : List Value} {e : TypeId} {sz : Nat} (hown : w.ownsRow w0.heap.size e sz v n xs) (hb : Below w.heap.size w w') : w'.ownsRow w0.heap.size e sz v n xs :=
  hown.kept (row := none) ⟨hb.os, hb.tape, hb.output, hb.size, fun k hk _ => hb.block k hk⟩ (by cases hv : v.ownBlock <;> simp)

set_option maxHeartbeats 1000000 in
/-- (*rebuild).putBack -/
theorem put22 (P : Nat) (mr mh : Option Nat) (am : Option Addr) (M : List Mv) (Lr Lh : List (ByteArray × ByteArray)) (w : World)
    (p5 : w.cell? ⟨P, 5, none⟩ = some (.map mr)) (p6 : w.cell? ⟨P, 6, none⟩ = some (.slice am M.length M.length)) (hM : IsMvs w am M) (hr : IsMap w mr Lr) (hh : IsMap w mh Lh) (hm : M.length ≤ 4096) (hz : ∀ m ∈ M, m.name.size ≤ 1048576) :
    Calls Try.prog 22 #[.pointer (some ⟨P, 5, none⟩), .map mh] w fun e w' => ∃ v, e = .returned v ∧ w'.ownsRow w.heap.size 49 3 v (rbU (get Lh) (get Lr) M).length ((rbU (get Lh) (get Lr) M).flatMap updCells) ∧ Below w.heap.size w w' := by
  have HM : Hid (IsMvs w am M) := hM
  have HR : Hid (IsMap w mr Lr) := hr
  have HH : Hid (IsMap w mh Lh) := hh
  have HZ : Hid (∀ m ∈ M, m.name.size ≤ 1048576) := hz
  have bP : P < w.heap.size := World.block_lt_of_cell? w _ p5
  clear hM hr hh hz
  obtain ⟨i0, hi, hz0, hz1, hz2⟩ := info_parts Try.info49
  go_enter Try.func22, Try.ntmps22
  go_wp2_with fail
  go_loopw [5, 7, 8, 14] (fun v _ _ i wr => ∃ j : Nat, j ≤ M.length ∧ i = .int .i64 j ∧ Hid (wr.ownsRow w.heap.size 49 3 v (rbU (get Lh) (get Lr) (M.take j)).length ((rbU (get Lh) (get Lr) (M.take j)).flatMap updCells)) ∧ Hid (Below w.heap.size w wr)) (fun _ _ _ i _ => M.length - (intOf i).toNat)
  case atStart => exact ⟨0, Nat.zero_le _, rfl, by simpa [rbU, Hid] using World.ownsRow_nil w w.heap.size 49 3, Below.refl _ _⟩
  case round =>
    obtain ⟨j, hj, rfl, hown, hbel⟩ := hrel
    by_cases hlt : j < M.length
    · obtain ⟨b, off, rfl, hmv⟩ : ∃ b off, am = some ⟨b, off, none⟩ ∧ Mvs wr b off M := by
        rcases HM.out.below hbel.out with h | h
        · rw [h] at hlt; simp at hlt
        · exact h
      obtain ⟨c0, c1, c2, c3, c4⟩ := hmv j hlt
      have zz := HZ.out (M[j]'hlt) (List.getElem_mem _)
      clear hmv
      generalize hm0 : (M[j]'hlt) = m at *
      have Hm0 : Hid ((M[j]'hlt) = m) := hm0
      clear hm0
      go_upto_region 5 with fail
      obtain ⟨W, hW⟩ : ∃ W, W = wr.alloc (.cells #[.string m.name, .string m.parent, .string m.base, .string m.head, .string m.onto] 57) := ⟨_, rfl⟩
      rw [← hW]
      have hbW : Hid (Below wr.heap.size wr W) := by rw [hW]; exact below_alloc _ _
      have v0 : W.cell? ⟨wr.heap.size, 0, none⟩ = some (.string m.name) := by rw [hW]; simp
      have v3 : W.cell? ⟨wr.heap.size, 3, none⟩ = some (.string m.head) := by rw [hW]; simp
      have hbW2 : Hid (Below w.heap.size w W) := hbel.out.trans (hbW.out.mono hbel.out.size)
      have q5 : W.cell? ⟨P, 5, none⟩ = some (.map mr) := (bel_cell hbW2.out bP _).trans p5
      have hown2 : Hid (W.ownsRow w.heap.size 49 3 u5 (rbU (get Lh) (get Lr) (M.take j)).length ((rbU (get Lh) (get Lr) (M.take j)).flatMap updCells)) := own_below hown.out hbW.out
      have l1 : ∀ n, (Instr.lookup 38 (.map mr) (.string m.name) false).run Try.prog (W.drewN n) = .ok (.string (get Lr m.name)) (W.drewN n) := fun n => (HR.out.below (drewN_below hbW2.out n) HR.out.lt).look _
      have l2 : ∀ n, (Instr.lookup 38 (.map mh) (.string m.name) false).run Try.prog (W.drewN n) = .ok (.string (get Lh m.name)) (W.drewN n) := fun n => (HH.out.below (drewN_below hbW2.out n) HH.out.lt).look _
      generalize wr.heap.size = V at *
      clear hW hbW hown hbel c0 c1 c2 c3 c4
      have HT : Hid (M.take (j + 1) = M.take j ++ [m]) := by rw [List.take_succ_eq_append_getElem hlt, Hm0.out]; rfl
      clear p5
      go_quiet (fail)
      have v0' : (W.drewN nq).cell? ⟨V, 0, none⟩ = some (.string m.name) := v0
      have v3' : (W.drewN nq).cell? ⟨V, 3, none⟩ = some (.string m.head) := v3
      have l2' := l2 nq
      have hown3 : Hid ((W.drewN nq).ownsRow w.heap.size 49 3 u5 (rbU (get Lh) (get Lr) (M.take j)).length ((rbU (get Lh) (get Lr) (M.take j)).flatMap updCells)) := hown2
      have hb3 : Hid (Below w.heap.size w (W.drewN nq)) := drewN_below hbW2.out nq
      generalize W.drewN nq = W2 at *
      clear v0 v3 l1 l2 hown2 hbW2 q5 W
      have hlen := rbU_length (get Lh) (get Lr) (M.take j)
      rw [List.length_take] at hlen
      generalize hU : rbU (get Lh) (get Lr) (M.take j) = U at *
      have HU : Hid (rbU (get Lh) (get Lr) (M.take j) = U) := hU
      clear hU
      cases hA : ((get Lr m.name).toList == m.head.toList) with
      | true =>
        have HN : Hid (rbU (get Lh) (get Lr) (M.take (j + 1)) = U) := by rw [HT.out, rbU_snoc, HU.out, rbOf_no (.inl hA)]; simp [Hid]
        go_wp2
        go_roundw
        case rel => exact ⟨j + 1, by omega, by go_num, by rw [HN.out]; exact hown3, hb3⟩
        case measure => simp [intOf]; omega
      | false =>
        cases hB : ((get Lh m.name).toList == (get Lr m.name).toList) with
        | false =>
          have HN : Hid (rbU (get Lh) (get Lr) (M.take (j + 1)) = U) := by rw [HT.out, rbU_snoc, HU.out, rbOf_no (.inr hB)]; simp [Hid]
          go_wp2
          go_roundw
          case rel => exact ⟨j + 1, by omega, by go_num, by rw [HN.out]; exact hown3, hb3⟩
          case measure => simp [intOf]; omega
        | true =>
          have HN : Hid (rbU (get Lh) (get Lr) (M.take (j + 1)) = U ++ [⟨ref m.name, m.head, get Lr m.name⟩]) := by rw [HT.out, rbU_snoc, HU.out, rbOf_yes hA hB]; rfl
          go_wp2_with (at_builtin; refine wpList_append_own _ rfl (.tmp 37) (.tmp 45) 46 rfl w.heap.size 49 i0 _ 3 48 Try.underlying46 hi hz0 hz1 hz2 rfl (by decide) u5 U.length (U.flatMap updCells) rfl (hown3.out.alloc _) ⟨W2.heap.size, 0, none⟩ 1 1 [.string (ref m.name), .string m.head, .string (get Lr m.name)] rfl rfl (three_cells W2 _ _ _ 49) (by simp [Value.oneCell']) (by unfold maxLen; omega) (by omega) (by have := hb3.out.size; simp; omega) ?_; intro v' w4 hown4 hgr4 _)
          have HB4 : Hid (Below w.heap.size w w4) := append_below hb3.out hown3.out hgr4
          have HO4 : Hid (w4.ownsRow w.heap.size 49 3 v' (rbU (get Lh) (get Lr) (M.take (j + 1))).length ((rbU (get Lh) (get Lr) (M.take (j + 1))).flatMap updCells)) := by
            rw [HN.out]
            have e : (U ++ [⟨ref m.name, m.head, get Lr m.name⟩] : List Upd).flatMap updCells = U.flatMap updCells ++ [.string (ref m.name), .string m.head, .string (get Lr m.name)] := by rw [List.flatMap_append]; rfl
            rw [e, List.length_append]
            exact hown4
          clear hown4 hgr4 hown3
          go_roundw
          case rel => exact ⟨j + 1, by omega, by go_num, HO4, HB4⟩
          case measure => simp [intOf]; omega
    · have HF : Hid (wr.ownsRow w.heap.size 49 3 u5 (rbU (get Lh) (get Lr) M).length ((rbU (get Lh) (get Lr) M).flatMap updCells)) := by
        have := hown.out
        rwa [List.take_of_length_le (by omega)] at this
      clear hown
      go_wp2
      go_ret
      exact ⟨_, rfl, HF.out, hbel.out⟩

end Go.Proofs.Qxb6619502a
