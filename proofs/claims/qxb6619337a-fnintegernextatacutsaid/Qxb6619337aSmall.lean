/-
  The small functions of the two laws: each computes a plain function and leaves the world as it is.
-/
import Derived.Test.Qxb6619337aRows
import Derived.Test.Qxb6619337aPlain
import Derived.WalkKit
import Derived.Laws.Cover1
namespace Go.Proofs.Qxb6619337a
open Go.RowKit

theorem ret_bool {a b : Bool} (h : a = b) : Ending.returned (.bool a) = .returned (.bool b) := by rw [h]

/-- zzBytes_FnIntegerNextIsSuccessor -/
theorem bytes6 (s : ByteArray) (w : World) (hs : s.size ≤ maxLen) :
    Calls Try.prog 6 #[.string s] w fun e w' => e = .returned (.bool (decide (s.size ≤ 1048576))) ∧ w' = w := by
  unfold maxLen at hs
  by_cases h : s.size ≤ 1048576
  · go_enter Try.func6, Try.ntmps6
    go_wp2
    go_ret
    exact ⟨ret_bool (by simp [h]), rfl⟩
  · go_enter Try.func6, Try.ntmps6
    go_wp2
    go_ret
    exact ⟨ret_bool (by simp [h]), rfl⟩

/-- zzBytes_FnIntegerNextAtACut -/
theorem bytes11 (s : ByteArray) (k : Int) (w : World) (hs : s.size ≤ maxLen) :
    Calls Try.prog 11 #[.string s, .int .i64 k] w fun e w' => e = .returned (.bool (decide (s.size ≤ 1048576))) ∧ w' = w := by
  unfold maxLen at hs
  by_cases h : s.size ≤ 1048576
  · go_enter Try.func11, Try.ntmps11
    go_wp2
    go_ret
    exact ⟨ret_bool (by simp [h]), rfl⟩
  · go_enter Try.func11, Try.ntmps11
    go_wp2
    go_ret
    exact ⟨ret_bool (by simp [h]), rfl⟩

/-- zzIsDigit -/
theorem dig17 (c : UInt8) (w : World) :
    Calls Try.prog 17 #[.int .u8 (c.toNat : Int)] w fun e w' => e = .returned (.bool (Plain.dig c)) ∧ w' = w := by
  by_cases h : 48 ≤ c.toNat
  · by_cases h2 : c.toNat ≤ 57
    · go_enter Try.func17, Try.ntmps17
      go_wp2
      go_ret
      exact ⟨ret_bool (by simp [Plain.dig, h, h2]; omega), rfl⟩
    · go_enter Try.func17, Try.ntmps17
      go_wp2
      go_ret
      exact ⟨ret_bool (by simp [Plain.dig, h, h2]; omega), rfl⟩
  · go_enter Try.func17, Try.ntmps17
    go_wp2
    go_ret
    exact ⟨ret_bool (by simp [Plain.dig, h]), rfl⟩

theorem toList_len (s : ByteArray) : s.data.toList.length = s.size := rfl

theorem take_snoc (s : ByteArray) (k : Nat) (h : k < s.size) : s.data.toList.take (k + 1) = s.data.toList.take k ++ [s[k]] := by
  rw [List.take_succ_eq_append_getElem (by simpa using h)]; rfl

theorem head_get (s : ByteArray) (h : 0 < s.size) : s.data.toList.head? = some (s[0]'h) := by
  rw [List.head?_eq_getElem?, List.getElem?_eq_getElem (by rw [toList_len]; exact h)]
  rfl

theorem mem_get (s : ByteArray) (k : Nat) (h : k < s.size) : (s[k]'h) ∈ s.data.toList := by
  have : s[k] = s.data.toList[k]'(by rw [toList_len]; exact h) := rfl
  rw [this]
  exact List.getElem_mem _

theorem eq48 (c : UInt8) : (((c.toNat : Int)) == 48) = decide (c = 48) := by
  rw [Bool.eq_iff_iff]
  simp
  constructor
  · intro h
    apply UInt8.toNat_inj.1
    have : (48 : UInt8).toNat = 48 := rfl
    omega
  · intro h; rw [h]; rfl

set_option maxHeartbeats 400000 in
/-- The scan of zzIsInteger: every byte from the first on is a digit. -/
theorem scan7 (s : ByteArray) (w : World) (hs : s.size ≤ maxLen) (hpos : 0 < s.size) (hb : Hid (1 < s.data.toList.length → s.data.toList.head? ≠ some 48))
    (hg : s.size ≤ 1 ∨ (1 < s.size ∧ ((s[0].toNat : Int) == 48) = false)) :
    Calls Try.prog 7 #[.string s] w fun e w' => e = .returned (.bool (Plain.isInt s.data.toList)) ∧ w' = w := by
  unfold maxLen at hs
  have hz : ((s.size : Int) == 0) = false := beq_eq_false_iff_ne.2 (by omega)
  have hin : Hid (∀ k, k = s.size → (∀ x ∈ s.data.toList.take k, Plain.dig x = true) → Plain.isInt s.data.toList = true) := by
    intro k hk ha
    subst hk
    rw [Plain.isInt_iff]
    rw [List.take_of_length_le (by rw [toList_len]; exact Nat.le_refl _)] at ha
    refine ⟨?_, hb.out, ha⟩
    intro h
    have := toList_len s
    rw [h] at this
    simp at this
    omega
  have hout : Hid (∀ k (h : k < s.size), Plain.dig s[k] = false → Plain.isInt s.data.toList = false) := by
    intro k hk ha
    cases h : Plain.isInt s.data.toList with
    | false => rfl
    | true =>
      have := ((Plain.isInt_iff _).1 h).2.2 _ (mem_get s k hk)
      rw [ha] at this
      cases this
  clear hb
  rcases hg with hg | ⟨hg, hg2⟩
  all_goals
    go_enter Try.func7, Try.ntmps7
    go_wp2_with fail
    go_loop [3] (fun i => ∃ k : Nat, k ≤ s.size ∧ i = .int .i64 k ∧ Hid (∀ x ∈ s.data.toList.take k, Plain.dig x = true)) (fun i => s.size - (intOf i).toNat)
    case atStart => exact ⟨0, Nat.zero_le _, rfl, by intro x hx; simp at hx⟩
    case round =>
      obtain ⟨k, hk, rfl, ha⟩ := hrel
      by_cases hlt : k < s.size
      · cases hd : Plain.dig s[k] with
        | true =>
          go_wp2_with (go_at_call 17; refine (dig17 _ _).mono ?_; rintro e w' ⟨rfl, rfl⟩)
          go_round
          case rel => exact ⟨k + 1, by omega, by go_num, by intro x hx; rw [take_snoc s k hlt, List.mem_append] at hx; rcases hx with hx | hx; exact ha.out x hx; rw [List.mem_singleton.1 hx]; exact hd⟩
          case measure => simp [intOf]; omega
        | false =>
          go_wp2_with (go_at_call 17; refine (dig17 _ _).mono ?_; rintro e w' ⟨rfl, rfl⟩)
          go_ret
          exact ⟨ret_bool (hout.out k hlt hd).symm, rfl⟩
      · go_wp2
        go_ret
        exact ⟨ret_bool (hin.out k (by omega) ha.out).symm, rfl⟩

/-- zzIsInteger -/
theorem int7 (s : ByteArray) (w : World) (hs : s.size ≤ maxLen) :
    Calls Try.prog 7 #[.string s] w fun e w' => e = .returned (.bool (Plain.isInt s.data.toList)) ∧ w' = w := by
  have hlen := toList_len s
  by_cases h0 : s.size = 0
  · obtain rfl : s = ByteArray.empty := ByteArray.size_eq_zero_iff.1 h0
    clear hlen h0 hs
    go_enter Try.func7, Try.ntmps7
    go_wp2
    go_ret
    exact ⟨rfl, rfl⟩
  · have hpos : 0 < s.size := by omega
    by_cases hlead : 1 < s.size ∧ s[0] = 48
    · obtain ⟨h1, h2⟩ := hlead
      have hz : ((s.size : Int) == 0) = false := beq_eq_false_iff_ne.2 (by omega)
      have hi : Hid (Plain.isInt s.data.toList = false) := by
        have hn := Plain.isInt_iff s.data.toList
        cases h : Plain.isInt s.data.toList with
        | false => rfl
        | true =>
          have := (hn.1 h).2.1 (by rw [hlen]; exact h1)
          rw [head_get s hpos, h2] at this
          exact absurd rfl this
      have hc : ((s[0].toNat : Int) == 48) = true := by rw [eq48]; simp [h2]
      clear hlen h0 h2
      unfold maxLen at hs
      go_enter Try.func7, Try.ntmps7
      go_wp2
      go_ret
      exact ⟨ret_bool hi.out.symm, rfl⟩
    · refine scan7 s w hs hpos ?_ ?_
      · intro h1
        rw [head_get s hpos]
        intro h2
        exact hlead ⟨by rw [← hlen]; exact h1, by simpa using h2⟩
      · by_cases h1 : 1 < s.size
        · exact .inr ⟨h1, by rw [eq48]; simp; intro h; exact hlead ⟨h1, h⟩⟩
        · exact .inl (by omega)

/-- zzGreater -/
theorem greater9 (a b : ByteArray) (w : World) :
    Calls Try.prog 9 #[.string a, .string b] w fun e w' =>
      e = .returned (.bool (if a.size = b.size then !(Op.bytesLess a.toList b.toList) && !(a.toList == b.toList) else decide (b.size < a.size))) ∧ w' = w := by
  by_cases h : a.size = b.size
  · rw [if_pos h]
    have hn : ((a.size : Int) != (b.size : Int)) = false := by simp; omega
    have hh : Hid (a.size = b.size) := h
    clear h
    go_enter Try.func9, Try.ntmps9
    go_wp2
    go_ret
    exact ⟨ret_bool (by simp), rfl⟩
  · rw [if_neg h]
    have hn : ((a.size : Int) != (b.size : Int)) = true := by simp; omega
    go_enter Try.func9, Try.ntmps9
    go_wp2
    go_ret
    exact ⟨ret_bool (by simp), rfl⟩

end Go.Proofs.Qxb6619337a
