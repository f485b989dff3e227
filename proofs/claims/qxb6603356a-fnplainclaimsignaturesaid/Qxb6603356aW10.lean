import Derived.Test.Qxb6603356aW7
import Derived.Test.Qxb6603356aW9
namespace Go.Proofs.Qxb6603356a
open Go.RowKit

/-- The plain claim's text. -/
def preT (f g h k a b : Func) (n r p : ByteArray) : ByteArray := withT f g h k n r p ++ litAt f 24 ++ litAt f 25 ++ litAt f 26 ++ litAt a 5 ++ litAt b 5
def postT (f m a b : Func) (u : ByteArray) : ByteArray := litAt b 6 ++ litAt a 6 ++ litAt f 30 ++ wrapT m 4 5 u ++ litAt f 33

theorem claim_rec (f g h k m a b : Func) (n u p r i : ByteArray) : claimT f g h k m a b n u p r i true = preT f g h k a b n r p ++ i ++ postT f m a b u := by
  apply list_eq
  simp only [claimT, preT, postT, anyT, wrapT, if_true, app_list, List.append_assoc]

theorem claim_rec0 (f g h k m a b : Func) (n u p r : ByteArray) : claimT f g h k m a b n u p r ⟨#[]⟩ true = preT f g h k a b n r p ++ postT f m a b u := by
  apply list_eq
  simp only [claimT, preT, postT, anyT, wrapT, if_true, app_list, List.append_assoc, List.nil_append]

theorem claim_plain (f g h k m a b : Func) (n u p r i j : ByteArray) : claimT f g h k m a b n u p r i false = claimT f g h k m a b n u p r j false := rfl

theorem claim_size (p r i : ByteArray) (q : Bool) (hp : p.size ≤ 4096) (hr : r.size ≤ 4096) (hi : i.size ≤ 4096) :
    (claimT Try.f30 Try.f32 Try.f33 Try.f34 Try.f35 Try.f36 Try.f37 ⟨#[110, 101, 120, 116]⟩ ⟨#[116, 97, 107, 101, 110]⟩ p r i q).size ≤ 262144 := by
  have hl := l_size
  have h4 : (⟨#[110, 101, 120, 116]⟩ : ByteArray).size = 4 := rfl
  have h5 : (⟨#[116, 97, 107, 101, 110]⟩ : ByteArray).size = 5 := rfl
  cases q
  · simp only [claimT, withT, Bool.false_eq_true, if_false, ByteArray.size_append, wrap_size]
    omega
  · simp only [claimT, withT, anyT, if_true, ByteArray.size_append, wrap_size]
    omega

theorem claim_hole (p r i j : ByteArray) : ∃ I, Hole (claimT Try.f30 Try.f32 Try.f33 Try.f34 Try.f35 Try.f36 Try.f37 ⟨#[110, 101, 120, 116]⟩ ⟨#[116, 97, 107, 101, 110]⟩ p r ⟨#[]⟩ true) i
    (claimT Try.f30 Try.f32 Try.f33 Try.f34 Try.f35 Try.f36 Try.f37 ⟨#[110, 101, 120, 116]⟩ ⟨#[116, 97, 107, 101, 110]⟩ p r i true) j
    (claimT Try.f30 Try.f32 Try.f33 Try.f34 Try.f35 Try.f36 Try.f37 ⟨#[110, 101, 120, 116]⟩ ⟨#[116, 97, 107, 101, 110]⟩ p r j true) I := by
  rw [claim_rec0, claim_rec, claim_rec]
  exact ⟨_, hole_of _ _ _ _⟩

set_option maxHeartbeats 1000000 in
theorem bytes21 (a b c d e f : ByteArray) (q : Bool) (w : World) (ha : a.size ≤ 4096) (hb : b.size ≤ 4096) (hc : c.size ≤ 4096) (hd : d.size ≤ 4096) (he : e.size ≤ 4096) (hf : f.size ≤ 4096) :
    Calls Try.prog 21 #[.string a, .string b, .string c, .string d, .string e, .string f, .bool q] w fun x w' => x = .returned (.bool true) ∧ w = w' := by
  go_enter Try.func21, Try.ntmps21
  go_wp2
  go_ret
  exact ⟨rfl, rfl⟩

set_option maxHeartbeats 1000000 in
theorem bytes21_any (a b c d e f : ByteArray) (q : Bool) (w : World) :
    Calls Try.prog 21 #[.string a, .string b, .string c, .string d, .string e, .string f, .bool q] w fun x w' => ∃ v : Bool, x = .returned (.bool v) ∧ w = w' := by
  go_enter Try.func21, Try.ntmps21
  go_wp2
  all_goals (go_ret; exact ⟨_, rfl, rfl⟩)

end Go.Proofs.Qxb6603356a
