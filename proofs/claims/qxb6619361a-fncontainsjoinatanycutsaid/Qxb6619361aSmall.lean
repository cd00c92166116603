/-
  The small functions of the law: each reads a list of strings and leaves the world as it is.
-/
import Derived.Test.Qxb6619361aRows
import Derived.WalkKit
namespace Go.Proofs.Qxb6619361a
open Go.RowKit

theorem ret_bool {a b : Bool} (h : a = b) : Ending.returned (.bool a) = .returned (.bool b) := by rw [h]

/-- It answers a bool of which Q holds. -/
def Answers (Q : Bool → Prop) (e : Ending) : Prop := ∃ b, e = .returned (.bool b) ∧ Q b
theorem Answers.mk {Q : Bool → Prop} {e : Ending} (b : Bool) (h : e = .returned (.bool b)) (hq : Q b) : Answers Q e := ⟨b, h, hq⟩

/-- It answers a bool; where it is true n is small. -/
def Fits (n : Nat) (e : Ending) : Prop := ∃ b, e = .returned (.bool b) ∧ (b = true → n ≤ 65536)
theorem Fits.mk {n : Nat} {e : Ending} (b : Bool) (h : e = .returned (.bool b)) (hq : b = true → n ≤ 65536) : Fits n e := ⟨b, h, hq⟩

/-- The strings ss lie from the address a on. -/
def SL (w : World) (a : Option Addr) (ss : List ByteArray) : Prop :=
  ss = [] ∨ ∃ b off, a = some ⟨b, off, none⟩ ∧ ∀ j (h : j < ss.length), w.cell? ⟨b, off + j, none⟩ = some (.string (ss[j]'h))

def has (ss : List ByteArray) (s : ByteArray) : Bool := ss.any (fun t => t.toList == s.toList)

theorem has_at {ss : List ByteArray} {s : ByteArray} (k : Nat) (h : k < ss.length) (he : ((ss[k]'h).toList == s.toList) = true) : has ss s = true := by
  unfold has
  rw [List.any_eq_true]
  exact ⟨ss[k], List.getElem_mem _, he⟩

theorem has_end {ss : List ByteArray} {s : ByteArray} (h : ∀ j (hj : j < ss.length), ((ss[j]'hj).toList == s.toList) = false) : has ss s = false := by
  unfold has
  rw [List.any_eq_false]
  intro x hx
  obtain ⟨j, hj, rfl⟩ := List.getElem_of_mem hx
  rw [h j hj]
  simp

/-- contains -/
theorem contains7 (a : Option Addr) (n cap : Nat) (ss : List ByteArray) (s : ByteArray) (w : World) (hn : ss.length = n) (hm : n ≤ 1048577) (hs : SL w a ss) :
    Calls Try.prog 7 #[.slice a n cap, .string s] w fun e w' => e = .returned (.bool (has ss s)) ∧ w' = w := by
  subst hn
  rcases hs with rfl | ⟨b, off, rfl, hc⟩
  · go_enter Try.func7, Try.ntmps7
    go_wp2_with fail
    go_loop [9] (fun i => i = .int .i64 0) (fun i => (intOf i).toNat)
    case atStart => rfl
    case round =>
      subst hrel
      go_wp2
      go_ret
      exact ⟨rfl, rfl⟩
  · have HC : Hid (∀ j (h : j < ss.length), w.cell? ⟨b, off + j, none⟩ = some (.string (ss[j]'h))) := hc
    clear hc
    go_enter Try.func7, Try.ntmps7
    go_wp2_with fail
    go_loop [9] (fun i => ∃ k : Nat, k ≤ ss.length ∧ i = .int .i64 k ∧ Hid (∀ j (hj : j < ss.length), j < k → ((ss[j]'hj).toList == s.toList) = false)) (fun i => ss.length - (intOf i).toNat)
    case atStart => exact ⟨0, Nat.zero_le _, rfl, by intro j hj h; omega⟩
    case round =>
      obtain ⟨k, hk, rfl, ha⟩ := hrel
      by_cases hlt : k < ss.length
      · have hcell := HC.out k hlt
        cases he : ((ss[k]'hlt).toList == s.toList) with
        | true =>
          have hfin : Hid (has ss s = true) := has_at k hlt he
          go_wp2
          go_ret
          exact ⟨ret_bool hfin.out.symm, rfl⟩
        | false =>
          have H : Hid (∀ j (hj : j < ss.length), j < k + 1 → ((ss[j]'hj).toList == s.toList) = false) := by
            intro j hj hjk
            by_cases h : j = k
            · subst h; exact he
            · exact ha.out j hj (by omega)
          clear ha
          go_wp2
          go_round
          case rel => exact ⟨k + 1, by omega, by go_num, H⟩
          case measure => simp [intOf]; omega
      · have hfin : Hid (has ss s = false) := has_end (fun j hj => ha.out j hj (by omega))
        go_wp2
        go_ret
        exact ⟨ret_bool hfin.out.symm, rfl⟩

/-- ZZcontains -/
theorem contains6 (a : Option Addr) (n cap : Nat) (ss : List ByteArray) (s : ByteArray) (w : World) (hn : ss.length = n) (hm : n ≤ 1048577) (hs : SL w a ss) :
    Calls Try.prog 6 #[.slice a n cap, .string s] w fun e w' => e = .returned (.bool (has ss s)) ∧ w' = w := by
  have hs' : Hid (SL w a ss) := hs
  have hn' : Hid (ss.length = n) := hn
  clear hs hn
  go_enter Try.func6, Try.ntmps6
  go_wp2_with (go_at_call 7; refine (contains7 a n cap ss s _ hn'.out hm hs'.out).mono ?_; rintro e w' ⟨rfl, rfl⟩)
  go_ret
  exact ⟨rfl, rfl⟩

set_option maxHeartbeats 400000 in
/-- zzBytes_FnContainsJoinAtAnyCut: it answers. -/
theorem bytes4 (a : Option Addr) (n cap : Nat) (ss : List ByteArray) (s : ByteArray) (k : Int) (w : World) (hn : ss.length = n) (hm : n ≤ maxLen) (hs : SL w a ss) :
    Calls Try.prog 4 #[.slice a n cap, .string s, .int .i64 k] w fun e w' => Answers (fun _ => True) e ∧ w' = w := by
  subst hn
  unfold maxLen at hm
  by_cases hl : ss.length ≤ 1048576
  · go_enter Try.func4, Try.ntmps4
    go_wp2_with fail
    go_loop [7, 8] (fun t i => ∃ (k m : Nat), k ≤ ss.length ∧ m ≤ 1048576 ∧ i = .int .i64 k ∧ t = .int .i64 m) (fun _ i => ss.length - (intOf i).toNat)
    case atStart => exact ⟨0, ss.length, Nat.zero_le _, hl, rfl, rfl⟩
    case round =>
      obtain ⟨k, m, hk, hm2, rfl, rfl⟩ := hrel
      by_cases hlt : k < ss.length
      · rcases hs with rfl | ⟨b, off, rfl, hc⟩
        · simp at hlt
        · have hcell := hc k hlt
          clear hc
          go_wp2
          all_goals first
            | (go_ret; exact ⟨.mk _ rfl trivial, rfl⟩)
            | (go_round
               case rel => exact ⟨k + 1, m + (ss[k]'hlt).size, by omega, by omega, by go_num, by go_num⟩
               case measure => simp [intOf]; omega)
      · clear hs
        go_wp2
        all_goals (go_ret; exact ⟨.mk _ rfl trivial, rfl⟩)
  · clear hs
    go_enter Try.func4, Try.ntmps4
    go_wp2
    go_ret
    exact ⟨.mk _ rfl trivial, rfl⟩

set_option maxHeartbeats 400000 in
/-- listFits: it answers; and where it says yes the list is short. -/
theorem fits5 (a : Option Addr) (n cap : Nat) (ss : List ByteArray) (s : ByteArray) (w : World) (hn : ss.length = n) (hm : n ≤ maxLen) (hs : SL w a ss) :
    Calls Try.prog 5 #[.slice a n cap, .string s] w fun e w' => Fits n e ∧ w' = w := by
  subst hn
  unfold maxLen at hm
  by_cases hl : ss.length ≤ 65536
  · by_cases hsz : s.size ≤ 1048576
    · go_enter Try.func5, Try.ntmps5
      go_wp2_with fail
      go_loop [5, 7, 20] (fun t x i => ∃ (k m : Nat), k ≤ ss.length ∧ m ≤ 1048576 ∧ i = .int .i64 k ∧ t = .int .i64 m) (fun _ _ i => ss.length - (intOf i).toNat)
      case atStart => exact ⟨0, s.size, Nat.zero_le _, hsz, rfl, rfl⟩
      case round =>
        obtain ⟨k, m, hk, hm2, rfl, rfl⟩ := hrel
        by_cases hlt : k < ss.length
        · rcases hs with rfl | ⟨b, off, rfl, hc⟩
          · simp at hlt
          · have hcell := hc k hlt
            clear hc
            go_wp2
            all_goals first
              | (go_ret; exact ⟨.mk _ rfl (fun _ => hl), rfl⟩)
              | (go_round
                 case rel => exact ⟨k + 1, m + (16 + (ss[k]'hlt).size), by omega, by omega, by go_num, by go_num⟩
                 case measure => simp [intOf]; omega)
        · clear hs
          go_wp2
          go_ret
          exact ⟨.mk _ rfl (fun _ => hl), rfl⟩
    · clear hs
      go_enter Try.func5, Try.ntmps5
      go_wp2
      go_ret
      exact ⟨.mk _ rfl (fun _ => hl), rfl⟩
  · clear hs
    go_enter Try.func5, Try.ntmps5
    go_wp2
    go_ret
    exact ⟨.mk false rfl (fun h => by cases h), rfl⟩

end Go.Proofs.Qxb6619361a
