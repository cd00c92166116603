/-
  The law at a list of no tokens (nil or empty): no position lies within it.
-/
import Derived.Test.Qxb6619490aBytes
namespace Go.Proofs.Qxb6619490a
open Go.RowKit

/-- zzBytes of a list of no tokens. -/
theorem bytes4_zero (src : ByteArray) (a : Option Addr) (cap : Nat) (x y z : Int) (w : World) :
    Calls Try.prog 4 #[.string src, .slice a 0 cap, .int .i64 x, .int .i64 y, .int .i64 z] w fun e w' => Answers [] e ∧ w' = w := by
  by_cases hs : src.size ≤ 1048576
  · go_enter Try.func4, Try.ntmps4
    go_wp2_with fail
    go_loop [11, 12] (fun t i => i = .int .i64 0) (fun _ i => (intOf i).toNat)
    case atStart => rfl
    case round =>
      subst hrel
      go_wp2
      go_ret
      exact ⟨.yes rfl (fun j h => by simp at h), rfl⟩
  · go_enter Try.func4, Try.ntmps4
    go_wp2
    go_ret
    exact ⟨.no rfl, rfl⟩

set_option maxRecDepth 100000 in
set_option maxHeartbeats 1000000 in
theorem main_zero (src : ByteArray) (a : Option Addr) (cap : Nat) (pos depth k : Int) (w : World) :
    Calls Try.prog 3 #[.string src, .slice a 0 cap, .int .i64 pos, .int .i64 depth, .int .i64 k] w fun e w' => e = .returned (.bool true) ∧ Below w.heap.size w w' := by
  go_enter Try.func3, Try.ntmps3
  go_wp2_with fail
  refine (bytes4_zero src a cap _ _ _ _).mono ?_
  rintro e w' ⟨⟨b', rfl, -⟩, rfl⟩
  cases b' with
  | false =>
    go_wp2
    go_ret
    exact ⟨rfl, Below.refl _ _⟩
  | true =>
    by_cases hs : src.size ≤ 1048576
    · go_wp2_with fail
      go_loop [11, 12] (fun t i => i = .int .i64 0) (fun _ i => (intOf i).toNat)
      case atStart => rfl
      case round =>
        subst hrel
        by_cases hp : pos < 0
        · go_wp2
          go_ret
          exact ⟨rfl, Below.refl _ _⟩
        · have hp1 : (0 : Int) ≤ pos := by omega
          go_wp2
          go_ret
          exact ⟨rfl, Below.refl _ _⟩
    · go_wp2
      go_ret
      exact ⟨rfl, Below.refl _ _⟩

end Go.Proofs.Qxb6619490a
