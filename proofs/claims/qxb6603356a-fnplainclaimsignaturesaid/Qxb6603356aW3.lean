import Derived.Test.Qxb6603356aW2
namespace Go.Proofs.Qxb6603356a
open Go.RowKit

/-! ### The texts that the program lays, read off her own functions -/

def opLit : Op → Option ByteArray
  | .binOp _ _ (.const (.string s)) _ _ => some s
  | .binOp _ _ _ (.const (.string s)) _ => some s
  | .assign (.const (.string s)) => some s
  | _ => none

def opsOf : Code → List Oper
  | .region _ ops _ => ops.toList
  | .seq a b => opsOf a ++ opsOf b
  | .cond _ a b => opsOf a ++ opsOf b
  | .block _ c => opsOf c
  | .loop c => opsOf c
  | .scope c => opsOf c
  | _ => []

/-- The last text that function f lays into slot d, or lays beside it. -/
def litAt (f : Func) (d : Nat) : ByteArray :=
  match f.body with
  | some c => (((opsOf c).filterMap fun o => if o.dst == some d then opLit o.op else none).getLast?).getD ⟨#[]⟩
  | none => ⟨#[]⟩

def clause (f : Func) (q : Bool) : ByteArray := if q then litAt f 3 else ⟨#[]⟩

def batchT (f : Func) (t : ByteArray) (q : Bool) : ByteArray := litAt f 8 ++ t ++ litAt f 9 ++ clause f q ++ litAt f 12 ++ t ++ litAt f 16

set_option maxRecDepth 100000 in
set_option maxHeartbeats 1000000 in
theorem batch_any (t : ByteArray) (q : Bool) (w : World) (ht : t.size ≤ 4096) :
    Calls Try.prog 27 #[.agg #[.string t, .bool q]] w fun e w' => e = .returned (.string (batchT Try.f27 t q)) ∧ w' = w.alloc (.cells #[.string t, .bool q] 36) := by
  cases q
  all_goals
    go_enter Try.func27, Try.ntmps27
    go_wp2
    go_ret
    exact ⟨by kernel_rfl, rfl⟩

set_option maxRecDepth 100000 in
set_option maxHeartbeats 1000000 in
theorem zzbatch_any (t : ByteArray) (q : Bool) (w : World) (ht : t.size ≤ 4096) :
    Calls Try.prog 12 #[.string t, .bool q] w fun e w' => e = .returned (.string (batchT Try.f27 t q)) ∧ w' = w.alloc (.cells #[.string t, .bool q] 36) := by
  go_enter Try.func12, Try.ntmps12
  go_wp2_with (go_at_call 27; refine (batch_any t q _ ht).mono ?_; rintro e w' ⟨rfl, rfl⟩)
  go_ret
  exact ⟨rfl, rfl⟩

end Go.Proofs.Qxb6603356a
