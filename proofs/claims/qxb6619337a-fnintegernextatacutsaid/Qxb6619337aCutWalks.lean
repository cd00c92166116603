/-
  zzAllNines, zzOneThenZeros.
-/
import Derived.Test.Qxb6619337aNext
namespace Go.Proofs.Qxb6619337a
open Go.RowKit

theorem ne_byte (c d : UInt8) : (((c.toNat : Int)) != (d.toNat : Int)) = decide (c ≠ d) := by
  rw [Bool.eq_iff_iff]
  simp
  constructor
  · intro h e
    exact h (by rw [e])
  · intro h e
    exact h (UInt8.toNat_inj.1 (by omega))

def nines (l : List UInt8) : Bool := l.all (· == 57)

/-- zzAllNines -/
theorem nines12 (s : ByteArray) (w : World) (hs : s.size ≤ maxLen) :
    Calls Try.prog 12 #[.string s] w fun e w' => e = .returned (.bool (nines s.data.toList)) ∧ w' = w := by
  unfold maxLen at hs
  go_enter Try.func12, Try.ntmps12
  go_wp2_with fail
  go_loop [3] (fun i => ∃ k : Nat, k ≤ s.size ∧ i = .int .i64 k ∧ Hid (∀ x ∈ s.data.toList.take k, x = 57)) (fun i => s.size - (intOf i).toNat)
  case atStart => exact ⟨0, Nat.zero_le _, rfl, by intro x hx; simp at hx⟩
  case round =>
    obtain ⟨k, hk, rfl, ha⟩ := hrel
    by_cases hlt : k < s.size
    · have hne := ne_byte s[k] 57
      rw [show ((57 : UInt8).toNat : Int) = 57 from rfl] at hne
      by_cases h : s[k] = 57
      · have hn2 : ((s[k].toNat : Int) != 57) = false := by rw [hne]; simp [h]
        clear hne
        have H : Hid (s[k] = 57) := h
        clear h
        go_wp2
        go_round
        case rel => exact ⟨k + 1, by omega, by go_num, by intro x hx; rw [take_snoc s k hlt, List.mem_append] at hx; rcases hx with hx | hx; exact ha.out x hx; rw [List.mem_singleton.1 hx]; exact H.out⟩
        case measure => simp [intOf]; omega
      · have hn2 : ((s[k].toNat : Int) != 57) = true := by rw [hne]; simp [h]
        clear hne
        have H : Hid (nines s.data.toList = false) := by
          show s.data.toList.all (· == 57) = false
          rw [List.all_eq_false]
          exact ⟨s[k], mem_get s k hlt, by simpa using h⟩
        clear h
        go_wp2
        go_ret
        exact ⟨ret_bool H.out.symm, rfl⟩
    · have H : Hid (nines s.data.toList = true) := by
        show s.data.toList.all (· == 57) = true
        rw [List.all_eq_true]
        intro x hx
        have := ha.out x (by rw [List.take_of_length_le (by rw [toList_len]; omega)]; exact hx)
        simp [this]
      go_wp2
      go_ret
      exact ⟨ret_bool H.out.symm, rfl⟩

/-- zzOneThenZeros at such a text. -/
theorem ones13 (s : ByteArray) (m : Nat) (w : World) (hm : m ≤ 1048577) (hs : s.data.toList = 49 :: List.replicate m 48) :
    Calls Try.prog 13 #[.string s, .int .i64 (m : Int)] w fun e w' => e = .returned (.bool true) ∧ w' = w := by
  have hsz : s.size = m + 1 := by rw [← toList_len, hs]; simp
  have h0 : (s[0]'(by omega)) = 49 := by
    have h1 := head_get s (by omega)
    rw [hs] at h1
    simpa using h1.symm
  have hk : ∀ k (h : k < s.size), 0 < k → ((s[k]'h).toNat : Int) = 48 := by
    intro k h hp
    have e : s[k] = s.data.toList[k]'(by rw [toList_len]; exact h) := rfl
    have e2 : s.data.toList[k]? = some (48 : UInt8) := by
      rw [hs]
      obtain ⟨j, rfl⟩ : ∃ j, k = j + 1 := ⟨k - 1, by omega⟩
      rw [List.getElem?_cons_succ, List.getElem?_replicate, if_pos (by omega)]
    rw [List.getElem?_eq_getElem (by rw [toList_len]; exact h)] at e2
    rw [e, Option.some.inj e2]
    rfl
  have HK : Hid (∀ k (h : k < s.size), 0 < k → ((s[k]'h).toNat : Int) = 48) := hk
  have hlt : 0 < s.size := by omega
  have h0' : (((s[0]'hlt).toNat : Int) != 49) = false := by rw [h0]; rfl
  have hn : ((s.size : Int) != (m : Int) + 1) = false := by rw [bne_eq_false_iff_eq]; omega
  have HS : Hid (s.size = m + 1) := hsz
  have hle : s.size ≤ 1048578 := by omega
  clear hs hsz h0 hk
  go_enter Try.func13, Try.ntmps13
  go_wp2_with fail
  go_loop [5] (fun i => ∃ k : Nat, 1 ≤ k ∧ k ≤ s.size ∧ i = .int .i64 k) (fun i => s.size - (intOf i).toNat)
  case atStart => exact ⟨1, Nat.le_refl _, by omega, rfl⟩
  case round =>
    obtain ⟨k, hk1, hk, rfl⟩ := hrel
    by_cases hlt : k < s.size
    · have hne : (((s[k]'hlt).toNat : Int) != 48) = false := by rw [HK.out k hlt (by omega)]; rfl
      go_wp2
      go_round
      case rel => exact ⟨k + 1, by omega, by omega, by go_num⟩
      case measure => simp [intOf]; omega
    · go_wp2
      go_ret
      exact ⟨rfl, rfl⟩

end Go.Proofs.Qxb6619337a
