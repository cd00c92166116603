/-
  The tokens in memory; the guard on sizes.
-/
import Derived.Test.Qxb6619490aSmall
namespace Go.Proofs.Qxb6619490a
open Go.RowKit

structure Tok where
  k : Int
  s : ByteArray
  o : Int

/-- The tokens T lie in block b from off on, three cells each. -/
def Toks (w : World) (b off : Nat) (T : List Tok) : Prop :=
  ∀ j (h : j < T.length), w.cell? ⟨b, off + j * 3, none⟩ = some (.int .u8 (T[j]'h).k) ∧ w.cell? ⟨b, off + j * 3 + 1, none⟩ = some (.string (T[j]'h).s) ∧ w.cell? ⟨b, off + j * 3 + 2, none⟩ = some (.int .i64 (T[j]'h).o)

/-- It answers a bool; where it is true every text is short. -/
def Answers (T : List Tok) (e : Ending) : Prop := ∃ b, e = .returned (.bool b) ∧ (b = true → ∀ j (h : j < T.length), (T[j]'h).s.size ≤ 1048576)
theorem Answers.no {T : List Tok} {e : Ending} (h : e = .returned (.bool false)) : Answers T e := ⟨false, h, fun h => by cases h⟩
theorem Answers.yes {T : List Tok} {e : Ending} (h : e = .returned (.bool true)) (hT : ∀ j (h : j < T.length), (T[j]'h).s.size ≤ 1048576) : Answers T e := ⟨true, h, fun _ => hT⟩

theorem short_succ {T : List Tok} {k : Nat} {s : ByteArray} (hA : Hid (∀ j (h : j < T.length), j < k → (T[j]'h).s.size ≤ 1048576)) (hlt : k < T.length) (hs : Hid ((T[k]'hlt).s = s)) (hz : s.size ≤ 1048576) :
    Hid (∀ j (h : j < T.length), j < k + 1 → (T[j]'h).s.size ≤ 1048576) := by
  intro j h hj
  by_cases e : j = k
  · subst e; rw [hs.out]; exact hz
  · exact hA.out j h (by omega)

set_option maxHeartbeats 400000 in
/-- zzBytes_FnParserNextReadsInOrderAndStopsAtEOF: it answers. -/
theorem bytes4 (src : ByteArray) (b off cap : Nat) (T : List Tok) (x y z : Int) (w : World) (ht : Toks w b off T) (hm : T.length ≤ maxLen) :
    Calls Try.prog 4 #[.string src, .slice (some ⟨b, off, none⟩) T.length cap, .int .i64 x, .int .i64 y, .int .i64 z] w fun e w' => Answers T e ∧ w' = w := by
  unfold maxLen at hm
  have HT : Hid (Toks w b off T) := ht
  clear ht
  by_cases hs : src.size ≤ 1048576
  · by_cases hl : T.length ≤ 1048576
    · by_cases hsum : src.size + T.length ≤ 1048576
      · go_enter Try.func4, Try.ntmps4
        go_wp2_with fail
        go_loop [11, 12] (fun t i => ∃ (k m : Nat), k ≤ T.length ∧ m ≤ 1048576 ∧ i = .int .i64 k ∧ t = .int .i64 m ∧ Hid (∀ j (h : j < T.length), j < k → (T[j]'h).s.size ≤ 1048576)) (fun _ i => T.length - (intOf i).toNat)
        case atStart => exact ⟨0, src.size + T.length, Nat.zero_le _, hsum, rfl, by go_num, by intro j h hj; omega⟩
        case round =>
          obtain ⟨k, m, hk, hm2, rfl, rfl, hA⟩ := hrel
          by_cases hlt : k < T.length
          · obtain ⟨-, hc, -⟩ := HT.out k hlt
            generalize hsx : (T[k]'hlt).s = s at hc
            have Hs : Hid ((T[k]'hlt).s = s) := hsx
            clear hsx
            go_wp2
            all_goals first
              | (go_ret; exact ⟨.no rfl, rfl⟩)
              | (go_round
                 case rel => exact ⟨k + 1, m + s.size, by omega, by omega, by go_num, by go_num, short_succ hA hlt Hs (by omega)⟩
                 case measure => simp [intOf]; omega)
          · go_wp2
            go_ret
            exact ⟨.yes rfl (fun j h => hA.out j h (by omega)), rfl⟩
      · go_enter Try.func4, Try.ntmps4
        go_wp2
        go_ret
        exact ⟨.no rfl, rfl⟩
    · go_enter Try.func4, Try.ntmps4
      go_wp2
      go_ret
      exact ⟨.no rfl, rfl⟩
  · go_enter Try.func4, Try.ntmps4
    go_wp2
    go_ret
    exact ⟨.no rfl, rfl⟩

/-- .. of a nil slice. -/
theorem bytes4_nil (src : ByteArray) (x y z : Int) (w : World) :
    Calls Try.prog 4 #[.string src, .slice none 0 0, .int .i64 x, .int .i64 y, .int .i64 z] w fun e w' => Answers [] e ∧ w' = w := by
  by_cases hs : src.size ≤ 1048576
  · go_enter Try.func4, Try.ntmps4
    go_wp2_with fail
    go_loop [11, 12] (fun t i => i = .int .i64 0) (fun _ i => (intOf i).toNat)
    case atStart => rfl
    case round =>
      subst hrel
      go_wp2
      go_ret
      exact ⟨.yes rfl (fun j h => by simp at h), rfl⟩
  · go_enter Try.func4, Try.ntmps4
    go_wp2
    go_ret
    exact ⟨.no rfl, rfl⟩

end Go.Proofs.Qxb6619490a
