import Derived.Test.Qxb6603247aProg
import Derived.WalkKit
namespace Go.Proofs.Qxb6603247a
open Go.RowKit

/-- JSON's four white bytes, as numbers. -/
def wht (n : Int) : Bool := n == 32 || n == 9 || n == 10 || n == 13

set_option maxHeartbeats 400000 in
theorem isWhite_any (n : Int) (w : World) :
    Calls Try.prog 12 #[.int .u8 n] w fun e w' => e = .returned (.bool (wht n)) ∧ w = w' := by
  unfold wht
  cases h1 : (n == 32) <;> cases h2 : (n == 9) <;> cases h3 : (n == 10) <;> cases h4 : (n == 13)
  all_goals
    go_enter Try.func12, Try.ntmps12
    go_wp2
    go_ret
    exact ⟨rfl, rfl⟩

set_option maxHeartbeats 400000 in
theorem bytes8 (s : ByteArray) (p : Int) (f : Bool) (w : World) (h : s.size ≤ maxLen) :
    Calls Try.prog 8 #[.string s, .int .i64 p, .bool f] w fun e w' => e = .returned (.bool (decide (s.size ≤ 1048576))) ∧ w = w' := by
  unfold maxLen at h
  by_cases h1 : s.size ≤ 1048576
  all_goals
    go_enter Try.func8, Try.ntmps8
    go_wp2
    go_ret
    exact ⟨by simp [*], rfl⟩

set_option maxHeartbeats 400000 in
theorem newReader (s : ByteArray) (p : Int) (f : Bool) (w : World) :
    Calls Try.prog 9 #[.string s, .int .i64 p, .bool f] w fun e w' => e = .returned (.pointer (some ⟨w.heap.size, 0, none⟩)) ∧ w' = w.alloc (.cells #[.string s, .int .i64 p, .bool f] 38) := by
  go_enter Try.func9, Try.ntmps9
  go_wp2
  go_ret
  exact ⟨rfl, rfl⟩

end Go.Proofs.Qxb6603247a
