/-
  zzPutBackNames, zzDistinct.
-/
import Derived.Test.Qxb6619502aBytes
import Derived.Deep.QuietTactic
import Derived.BigQuiet
namespace Go.Proofs.Qxb6619502a
open Go.RowKit

theorem Try.info9 : (Try.prog.info? 9).map (fun i => (i.zero, i.size, i.bytes)) = some (some (.string ⟨#[]⟩), 1, 16) := by kernel_rfl

def namesOf (trunk : ByteArray) (M : List Mv) (R : List ByteArray) : List ByteArray := M.map (·.name) ++ [trunk] ++ R

theorem one_cell (w : World) (s : ByteArray) : ∀ x, some (⟨w.heap.size, 0, none⟩ : Addr) = some x → ∀ j u, [Value.string s][j]? = some u → (w.alloc (.cells #[.string s] 9)).cell? (x.add j) = some u := by
  intro x hx j u hu
  cases hx
  match j, hu with
  | 0, hu => simp at hu; subst hu; simp [Addr.add]

theorem Strs.owned {w : World} {base g n cap : Nat} {ss : List ByteArray} (h : w.ownsRow base 9 1 (.slice (some ⟨g, 0, none⟩) n cap) n (ss.map Value.string)) : Strs w g 0 ss := by
  intro j hj
  have := h.cells (g := g) rfl j (.string ss[j]) (by simp [hj])
  rw [show (⟨g, 0, none⟩ : Addr).add j = ⟨g, 0 + j, none⟩ by unfold Addr.add; split <;> simp_all] at this
  exact this

/-- What an append to the row g leaves of the rest. -/
theorem grown_below {w0 w w' : World} {o : Obj} (h : Below w0.heap.size w0 w) (hg : (w.alloc o).grownBy w' (some w0.heap.size)) : Below w0.heap.size w0 w' := by
  have h1 := h.alloc h.size o
  exact h1.grown hg h1.size (by intro k hk; cases hk; exact Nat.le_refl _)

set_option maxHeartbeats 1000000 in
/-- zzPutBackNames -/
theorem names15 (trunk : ByteArray) (am ar : Option Addr) (cm cr : Nat) (M : List Mv) (R : List ByteArray) (w : World) (hM : IsMvs w am M) (hR : IsStrs w ar R) (hm : M.length ≤ 4096) (hr : R.length ≤ 4096) :
    Calls Try.prog 15 #[.string trunk, .slice am M.length cm, .slice ar R.length cr] w fun e w' =>
      e = .returned (.slice (some ⟨w.heap.size, 0, none⟩) (M.length + 1 + R.length) (M.length + 1 + R.length)) ∧ Strs w' w.heap.size 0 (namesOf trunk M R) ∧ Below w.heap.size w w' := by
  have HM : Hid (IsMvs w am M) := hM
  have HR : Hid (IsStrs w ar R) := hR
  clear hM hR
  obtain ⟨i0, hi, hz0, hz1, hz2⟩ := info_parts Try.info9
  have HI : Hid (i0.bytes = 16) := hz2
  clear hz2
  go_enter Try.func15, Try.ntmps15
  go_wp2_with (at_make; refine wpList_make_own _ rfl (.const (.int .i64 0)) (.tmp 15) 40 rfl w.heap.size 9 i0 (.string ⟨#[]⟩) 1 Try.underlying40 hi hz0 hz1 .i64 .i64 _ (M.length + 1 + R.length) rfl rfl (by omega) (by rw [HI.out]; omega) (by unfold maxLen; omega) (Nat.le_refl _) ?_; intro w1 hown1 hgr1)
  have HB1 : Hid (Below w.heap.size w w1) := (Below.refl _ _).grown hgr1 (Nat.le_refl _) (by simp)
  have HO1 : Hid (w1.ownsRow w.heap.size 9 1 (.slice (some ⟨w.heap.size, 0, none⟩) 0 (M.length + 1 + R.length)) 0 []) := hown1
  clear hown1 hgr1
  go_loopw [7, 8] (fun v i wr => ∃ j : Nat, j ≤ M.length ∧ i = .int .i64 j ∧ v = .slice (some ⟨w.heap.size, 0, none⟩) j (M.length + 1 + R.length) ∧
      Hid (wr.ownsRow w.heap.size 9 1 (.slice (some ⟨w.heap.size, 0, none⟩) j (M.length + 1 + R.length)) j (((M.take j).map (·.name)).map Value.string)) ∧ Hid (Below w.heap.size w wr)) (fun _ i _ => M.length - (intOf i).toNat)
  case atStart => exact ⟨0, Nat.zero_le _, rfl, rfl, HO1, HB1⟩
  case round =>
    obtain ⟨j, hj, rfl, rfl, hown, hbel⟩ := hrel
    by_cases hlt : j < M.length
    · obtain ⟨b, off, rfl, hmv⟩ : ∃ b off, am = some ⟨b, off, none⟩ ∧ Mvs wr b off M := by
        rcases HM.out.below hbel.out with h | h
        · rw [h] at hlt; simp at hlt
        · exact h
      obtain ⟨c0, -⟩ := hmv j hlt
      clear hmv HO1 HB1
      go_wp2_with (at_builtin; refine wpList_append_fits_any _ rfl (.tmp 23) (.tmp 29) 40 rfl w.heap.size 9 i0 1 Try.underlying40 hi hz1 w.heap.size j (M.length + 1 + R.length) (((M.take j).map (·.name)).map Value.string) rfl (hown.out.alloc _) (some ⟨wr.heap.size, 0, none⟩) 1 1 [.string (M[j]'hlt).name] rfl rfl (by simp) (one_cell wr _) (by simp [Value.oneCell']) (by omega) ?_; intro w3 hown3 hgr3)
      have HB3 : Hid (Below w.heap.size w w3) := grown_below hbel.out hgr3
      have HO3 : Hid (w3.ownsRow w.heap.size 9 1 (.slice (some ⟨w.heap.size, 0, none⟩) (j + 1) (M.length + 1 + R.length)) (j + 1) (((M.take (j + 1)).map (·.name)).map Value.string)) := by
        have e : ((M.take (j + 1)).map (·.name)).map Value.string = ((M.take j).map (·.name)).map Value.string ++ [Value.string (M[j]'hlt).name] := by
          rw [List.take_succ_eq_append_getElem hlt, List.map_append, List.map_append]; rfl
        rw [e]
        exact hown3
      clear hown3 hgr3 hown hbel
      go_wp2
      go_roundw
      case rel => exact ⟨j + 1, by omega, by go_num, rfl, HO3, HB3⟩
      case measure => simp [intOf]; omega
    · have hown' : Hid (wr.ownsRow w.heap.size 9 1 (.slice (some ⟨w.heap.size, 0, none⟩) j (M.length + 1 + R.length)) j ((M.map (·.name)).map Value.string)) := by
        have := hown.out
        rwa [List.take_of_length_le (by omega)] at this
      have HJ : Hid (j = M.length) := by show _ = _; omega
      clear hown HO1 HB1
      go_wp2_with (at_builtin; refine wpList_append_fits_any _ rfl (.tmp 31) (.tmp 33) 40 rfl w.heap.size 9 i0 1 Try.underlying40 hi hz1 w.heap.size j (M.length + 1 + R.length) ((M.map (·.name)).map Value.string) rfl (hown'.out.alloc _) (some ⟨wr.heap.size, 0, none⟩) 1 1 [.string trunk] rfl rfl (by simp) (one_cell wr _) (by simp [Value.oneCell']) (by omega) ?_; intro w3 hown3 hgr3)
      have HB3 : Hid (Below w.heap.size w w3) := grown_below hbel.out hgr3
      have HO3 : Hid (w3.ownsRow w.heap.size 9 1 (.slice (some ⟨w.heap.size, 0, none⟩) (j + 1) (M.length + 1 + R.length)) (j + 1) ((M.map (·.name) ++ [trunk]).map Value.string)) := by
        have e : (M.map (·.name) ++ [trunk]).map Value.string = (M.map (·.name)).map Value.string ++ [Value.string trunk] := by rw [List.map_append]; rfl
        rw [e]
        exact hown3
      clear hown3 hgr3 hown' hbel
      go_loopw [7, 9] (fun v i wr => ∃ j2 : Nat, j2 ≤ R.length ∧ i = .int .i64 j2 ∧ v = .slice (some ⟨w.heap.size, 0, none⟩) (M.length + 1 + j2) (M.length + 1 + R.length) ∧
          Hid (wr.ownsRow w.heap.size 9 1 (.slice (some ⟨w.heap.size, 0, none⟩) (M.length + 1 + j2) (M.length + 1 + R.length)) (M.length + 1 + j2) ((M.map (·.name) ++ [trunk] ++ R.take j2).map Value.string)) ∧ Hid (Below w.heap.size w wr)) (fun _ i _ => R.length - (intOf i).toNat)
      case atStart =>
        refine ⟨0, Nat.zero_le _, rfl, by rw [HJ.out], ?_, HB3⟩
        have h := HO3.out
        have e : M.map (·.name) ++ [trunk] ++ R.take 0 = M.map (·.name) ++ [trunk] := by simp
        rw [e]
        rw [HJ.out] at h
        exact h
      case round =>
        obtain ⟨j2, hj2, rfl, rfl, hown2, hbel2⟩ := hrel
        by_cases hlt2 : j2 < R.length
        · obtain ⟨b, off, rfl, hmv⟩ : ∃ b off, ar = some ⟨b, off, none⟩ ∧ Strs wr b off R := by
            rcases HR.out.below hbel2.out with h | h
            · rw [h] at hlt2; simp at hlt2
            · exact h
          have c0 := hmv j2 hlt2
          clear hmv HO3 HB3
          go_wp2_with (at_builtin; refine wpList_append_fits_any _ rfl (.tmp 41) (.tmp 46) 40 rfl w.heap.size 9 i0 1 Try.underlying40 hi hz1 w.heap.size (M.length + 1 + j2) (M.length + 1 + R.length) ((M.map (·.name) ++ [trunk] ++ R.take j2).map Value.string) rfl (hown2.out.alloc _) (some ⟨wr.heap.size, 0, none⟩) 1 1 [.string (R[j2]'hlt2)] rfl rfl (by simp) (one_cell wr _) (by simp [Value.oneCell']) (by omega) ?_; intro w4 hown4 hgr4)
          have HB4 : Hid (Below w.heap.size w w4) := grown_below hbel2.out hgr4
          have HO4 : Hid (w4.ownsRow w.heap.size 9 1 (.slice (some ⟨w.heap.size, 0, none⟩) (M.length + 1 + (j2 + 1)) (M.length + 1 + R.length)) (M.length + 1 + (j2 + 1)) ((M.map (·.name) ++ [trunk] ++ R.take (j2 + 1)).map Value.string)) := by
            have e : (M.map (·.name) ++ [trunk] ++ R.take (j2 + 1)).map Value.string = (M.map (·.name) ++ [trunk] ++ R.take j2).map Value.string ++ [Value.string (R[j2]'hlt2)] := by
              rw [List.take_succ_eq_append_getElem hlt2, ← List.append_assoc, List.map_append]; rfl
            rw [e]
            exact hown4
          clear hown4 hgr4 hown2 hbel2
          go_wp2
          go_roundw
          case rel => exact ⟨j2 + 1, by omega, by go_num, rfl, HO4, HB4⟩
          case measure => simp [intOf]; omega
        · have HF : Hid (Strs wr w.heap.size 0 (namesOf trunk M R)) := by
            have := hown2.out
            rw [List.take_of_length_le (by omega)] at this
            exact Strs.owned this
          obtain rfl : j2 = R.length := by omega
          clear hown2
          go_wp2
          go_ret
          exact ⟨rfl, HF.out, hbel2.out⟩

/-- No two are the same. -/
def Distinct (ss : List ByteArray) : Prop := ∀ i j (hi : i < ss.length) (hj : j < ss.length), i < j → ((ss[i]'hi).toList == (ss[j]'hj).toList) = false
/-- .. of those ahead of i with any; and of i with those ahead of j. -/
def DistTo (ss : List ByteArray) (i j : Nat) : Prop := ∀ a c (ha : a < ss.length) (hc : c < ss.length), a < c → (a < i ∨ (a = i ∧ c < j)) → ((ss[a]'ha).toList == (ss[c]'hc).toList) = false
def SaysDistinct (ss : List ByteArray) (e : Ending) : Prop := ∃ b, e = .returned (.bool b) ∧ (b = true → Distinct ss)
theorem SaysDistinct.no {ss : List ByteArray} {e : Ending} (h : e = .returned (.bool false)) : SaysDistinct ss e := ⟨false, h, fun h => by cases h⟩
theorem SaysDistinct.yes {ss : List ByteArray} {e : Ending} (h : e = .returned (.bool true)) (hd : Distinct ss) : SaysDistinct ss e := ⟨true, h, fun _ => hd⟩

theorem drewN_below {B : Nat} {w0 w : World} (h : Below B w0 w) (n : Nat) : Below B w0 (w.drewN n) := h.trans ⟨rfl, rfl, rfl, Nat.le_refl _, fun _ _ => rfl⟩

set_option maxHeartbeats 1000000 in
/-- zzDistinct -/
theorem distinct16 (b n cap : Nat) (ss : List ByteArray) (w : World) (hs : Strs w b 0 ss) (hn : ss.length = n) (hm : n ≤ 16384) :
    Calls Try.prog 16 #[.slice (some ⟨b, 0, none⟩) n cap] w fun e w' => SaysDistinct ss e ∧ Below w.heap.size w w' := by
  subst hn
  have HS : Hid (Strs w b 0 ss) := hs
  clear hs
  go_enter Try.func16, Try.ntmps16
  go_wp2_with fail
  go_loopw [3, 4] (fun i _ wr => ∃ a : Nat, a ≤ ss.length ∧ i = .int .i64 a ∧ Hid (DistTo ss a 0) ∧ Hid (Below w.heap.size w wr)) (fun i _ _ => ss.length - (intOf i).toNat)
  case atStart => exact ⟨0, Nat.zero_le _, rfl, by intro a c ha hc h1 h2; omega, Below.refl _ _⟩
  case round =>
    obtain ⟨a, ha, rfl, hD, hW⟩ := hrel
    by_cases hlt : a < ss.length
    · go_wp2_with fail
      go_loopw [4] (fun i wr => ∃ c : Nat, a + 1 ≤ c ∧ c ≤ ss.length ∧ i = .int .i64 c ∧ Hid (DistTo ss a c) ∧ Hid (Below w.heap.size w wr)) (fun i _ => ss.length - (intOf i).toNat)
      case atStart => exact ⟨a + 1, Nat.le_refl _, by omega, by go_num, by intro x y hx hy h1 h2; exact hD.out x y hx hy h1 (by omega), hW⟩
      case round =>
        obtain ⟨c, hc1, hc2, rfl, hD2, hW2⟩ := hrel
        by_cases hlt2 : c < ss.length
        · have hbw : b < w.heap.size := HS.out.lt (by omega)
          have g0 := (HS.out.below hW2.out hbw) a hlt
          have g1 := (HS.out.below hW2.out hbw) c hlt2
          rw [Nat.zero_add] at g0 g1
          have hi0 : (0 : Int) ≤ (a : Int) := by omega
          have hi1 : (a : Int) < (ss.length : Int) := by omega
          have hc0 : (0 : Int) ≤ (c : Int) := by omega
          have hc3 : (c : Int) < (ss.length : Int) := by omega
          cases he : ((ss[a]'hlt).toList == (ss[c]'hlt2).toList) with
          | true =>
            go_wp2_with fail
            go_quiet (fail)
            go_wp2
            go_ret
            exact ⟨.no rfl, drewN_below hW2.out _⟩
          | false =>
            have hD3 : Hid (DistTo ss a (c + 1)) := by
              intro x y hx hy h1 h2
              by_cases e : x = a ∧ y = c
              · obtain ⟨rfl, rfl⟩ := e; exact he
              · exact hD2.out x y hx hy h1 (by omega)
            clear hD2 hW hD
            go_wp2_with fail
            go_quiet (fail)
            go_wp2
            go_roundw
            case rel => exact ⟨c + 1, by omega, by omega, by go_num, hD3, drewN_below hW2.out _⟩
            case measure => simp [intOf]; omega
        · have hD3 : Hid (DistTo ss (a + 1) 0) := by
            intro x y hx hy h1 h2
            exact hD2.out x y hx hy h1 (by omega)
          clear hD2 hW hD
          go_wp2
          go_roundw
          case rel => exact ⟨a + 1, by omega, by go_num, hD3, hW2⟩
          case measure => simp [intOf]; omega
    · have hF : Hid (Distinct ss) := fun i j hi hj hij => hD.out i j hi hj hij (by omega)
      clear hD
      go_wp2
      go_ret
      exact ⟨.yes rfl hF.out, hW.out⟩

end Go.Proofs.Qxb6619502a
