import Derived.Test.Qxb6603356aW3
import Derived.Deep.RegionWith
import Derived.BigRegion
namespace Go.Proofs.Qxb6603356a
open Go.RowKit

def wrapT (f : Func) (i j : Nat) (c : ByteArray) : ByteArray := litAt f i ++ c ++ litAt f j

set_option maxRecDepth 100000 in
set_option maxHeartbeats 1000000 in
theorem dueJobs_any (c : ByteArray) (w : World) (h : c.size ≤ 1048576) :
    Calls Try.prog 32 #[.string c] w fun e w' => e = .returned (.string (wrapT Try.f32 4 5 c)) ∧ w = w' := by
  go_enter Try.func32, Try.ntmps32
  go_wp2
  go_ret
  exact ⟨by kernel_rfl, rfl⟩

set_option maxRecDepth 100000 in
set_option maxHeartbeats 1000000 in
theorem firstOfItsKey_any (c : ByteArray) (w : World) (h : c.size ≤ 1048576) :
    Calls Try.prog 33 #[.string c] w fun e w' => e = .returned (.string (wrapT Try.f33 4 5 c)) ∧ w = w' := by
  go_enter Try.func33, Try.ntmps33
  go_wp2
  go_ret
  exact ⟨by kernel_rfl, rfl⟩

set_option maxRecDepth 100000 in
set_option maxHeartbeats 1000000 in
theorem takenRows_any (c : ByteArray) (w : World) (h : c.size ≤ 1048576) :
    Calls Try.prog 35 #[.string c] w fun e w' => e = .returned (.string (wrapT Try.f35 4 5 c)) ∧ w = w' := by
  go_enter Try.func35, Try.ntmps35
  go_wp2
  go_ret
  exact ⟨by kernel_rfl, rfl⟩

set_option maxRecDepth 100000 in
set_option maxHeartbeats 1000000 in
theorem takeChosen_any (p r i o : ByteArray) (q : Bool) (w : World) (h : p.size ≤ 1048576) :
    Calls Try.prog 34 #[.agg #[.string p, .string r, .string i, .string o, .bool q]] w fun e w' => e = .returned (.string (wrapT Try.f34 5 6 p)) ∧ w' = w.alloc (.cells #[.string p, .string r, .string i, .string o, .bool q] 41) := by
  go_enter Try.func34, Try.ntmps34
  go_wp2
  go_ret
  exact ⟨by kernel_rfl, rfl⟩

set_option maxRecDepth 100000 in
set_option maxHeartbeats 1000000 in
theorem inLineIn_any (p r i o : ByteArray) (q : Bool) (w : World) (h : i.size ≤ 1048576) :
    Calls Try.prog 37 #[.agg #[.string p, .string r, .string i, .string o, .bool q]] w fun e w' => e = .returned (.string (wrapT Try.f37 5 6 i)) ∧ w' = w.alloc (.cells #[.string p, .string r, .string i, .string o, .bool q] 41) := by
  go_enter Try.func37, Try.ntmps37
  go_wp2
  go_ret
  exact ⟨by kernel_rfl, rfl⟩

end Go.Proofs.Qxb6603356a
