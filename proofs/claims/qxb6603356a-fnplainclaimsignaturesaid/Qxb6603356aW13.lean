import Derived.Test.Qxb6603356aW9
import Derived.Test.Qxb6603356aW12
namespace Go.Proofs.Qxb6603356a
open Go.RowKit

/-! ### The needle's laws at a text's edges -/

def lastNot (nd a : List UInt8) : Bool := match a.getLast? with | some y => !nd.contains y | none => false
def headNot (nd b : List UInt8) : Bool := match b with | y :: _ => !nd.contains y | [] => false

theorem has_nil {nd : List UInt8} (hn : nd.isEmpty = false) : hasL nd [] = false := hn

theorem has_headNot {nd b : List UInt8} (hn : nd.isEmpty = false) (hb : headNot nd b = true) (a : List UInt8) : hasL nd (a ++ b) = (hasL nd a || hasL nd b) := by
  match b, hb with
  | y :: b', hb =>
    have hy : nd.contains y = false := by simpa [headNot] using hb
    have h1 := has_cut hn hy b' a
    have h2 := has_cut hn hy b' []
    rw [List.nil_append, has_nil hn, Bool.false_or] at h2
    rw [h1, h2]

theorem has_lastNot {nd a : List UInt8} (hn : nd.isEmpty = false) (ha : lastNot nd a = true) (b : List UInt8) : hasL nd (a ++ b) = (hasL nd a || hasL nd b) := by
  unfold lastNot at ha
  split at ha
  · next y hy =>
    obtain ⟨a', rfl⟩ := List.getLast?_eq_some_iff.1 hy
    have hyn : nd.contains y = false := by simpa using ha
    have h1 := has_cut hn hyn b a'
    have h2 := has_cut hn hyn [] a'
    rw [has_nil hn, Bool.or_false] at h2
    rw [List.append_assoc, List.singleton_append, h1, h2]
  · exact absurd ha (by simp)

theorem lastNot_append {nd b : List UInt8} (a : List UInt8) (h : lastNot nd b = true) : lastNot nd (a ++ b) = true := by
  unfold lastNot at h
  split at h
  · next y hy =>
    obtain ⟨b', rfl⟩ := List.getLast?_eq_some_iff.1 hy
    rw [← List.append_assoc]
    unfold lastNot
    rw [List.getLast?_concat]
    exact h
  · exact absurd h (by simp)

/-! ### The plain claim's text, part by part -/

def partA (f g : Func) : List UInt8 := (litAt f 8).data.toList ++ (litAt g 4).data.toList ++ (litAt f 6).data.toList
def partB (f g h k : Func) (n : ByteArray) : List UInt8 := (litAt g 5).data.toList ++ (litAt f 9).data.toList ++ (litAt h 4).data.toList ++ n.data.toList ++ (litAt h 5).data.toList ++ (litAt f 12).data.toList ++ (litAt k 5).data.toList
def partC (f k m : Func) (u : ByteArray) : List UInt8 := (litAt k 6).data.toList ++ (litAt f 16).data.toList ++ (litAt m 4).data.toList ++ u.data.toList ++ (litAt m 5).data.toList
def partR (f k a b : Func) : List UInt8 := (litAt k 6).data.toList ++ (litAt f 16).data.toList ++ (litAt f 24).data.toList ++ (litAt f 25).data.toList ++ (litAt f 26).data.toList ++ (litAt a 5).data.toList ++ (litAt b 5).data.toList
def partD (f m a b : Func) (u : ByteArray) : List UInt8 := (litAt b 6).data.toList ++ (litAt a 6).data.toList ++ (litAt f 30).data.toList ++ (litAt m 4).data.toList ++ u.data.toList ++ (litAt m 5).data.toList ++ (litAt f 33).data.toList

theorem claim_list0 (f g h k m a b : Func) (n u p r i : ByteArray) : (claimT f g h k m a b n u p r i false).data.toList = partA f g ++ r.data.toList ++ partB f g h k n ++ p.data.toList ++ partC f k m u := by
  simp only [claimT, withT, wrapT, partA, partB, partC, Bool.false_eq_true, if_false, app_list, List.append_assoc]

theorem claim_list1 (f g h k m a b : Func) (n u p r i : ByteArray) : (claimT f g h k m a b n u p r i true).data.toList = partA f g ++ r.data.toList ++ partB f g h k n ++ p.data.toList ++ partR f k a b ++ i.data.toList ++ partD f m a b u := by
  simp only [claimT, withT, wrapT, anyT, partA, partB, partR, partD, if_true, app_list, List.append_assoc]

def argLit : Op → Option ByteArray
  | .call c => c.args.toList.findSome? fun x => match x with | .const (.string s) => some s | _ => none
  | _ => none

/-- The text that function f hands to the call whose answer goes into slot d. -/
def argAt (f : Func) (d : Nat) : ByteArray :=
  match f.body with
  | some c => (((opsOf c).filterMap fun o => if o.dst == some d then argLit o.op else none).getLast?).getD ⟨#[]⟩
  | none => ⟨#[]⟩

theorem ok_A : lastOk (partA Try.f30 Try.f32) = true := by decide +kernel
theorem ok_B : headOk (partB Try.f30 Try.f32 Try.f33 Try.f34 ⟨#[110, 101, 120, 116]⟩) = true ∧ lastOk (partB Try.f30 Try.f32 Try.f33 Try.f34 ⟨#[110, 101, 120, 116]⟩) = true := by decide +kernel
theorem ok_C : headOk (partC Try.f30 Try.f34 Try.f35 ⟨#[116, 97, 107, 101, 110]⟩) = true := by decide +kernel
theorem ok_R : headOk (partR Try.f30 Try.f34 Try.f36 Try.f37) = true ∧ lastOk (partR Try.f30 Try.f34 Try.f36 Try.f37) = true := by decide +kernel
theorem ok_D : headOk (partD Try.f30 Try.f35 Try.f36 Try.f37 ⟨#[116, 97, 107, 101, 110]⟩) = true := by decide +kernel

theorem seq_parts : seqL (partA Try.f30 Try.f32) = [] ∧ seqL (partB Try.f30 Try.f32 Try.f33 Try.f34 ⟨#[110, 101, 120, 116]⟩) = [] ∧ seqL (partC Try.f30 Try.f34 Try.f35 ⟨#[116, 97, 107, 101, 110]⟩) = [] ∧ seqL (partR Try.f30 Try.f34 Try.f36 Try.f37) = [] ∧ seqL (partD Try.f30 Try.f35 Try.f36 Try.f37 ⟨#[116, 97, 107, 101, 110]⟩) = [] := by decide +kernel

theorem cnt_parts : ∀ n ∈ ([1, 2, 3, 4, 5, 6, 7, 8, 9] : List Int),
    (n ≤ 5 → 0 < cntL n (partA Try.f30 Try.f32) + cntL n (partB Try.f30 Try.f32 Try.f33 Try.f34 ⟨#[110, 101, 120, 116]⟩) + cntL n (partC Try.f30 Try.f34 Try.f35 ⟨#[116, 97, 107, 101, 110]⟩)) ∧
    (n ≤ 5 → 0 < cntL n (partA Try.f30 Try.f32) + cntL n (partB Try.f30 Try.f32 Try.f33 Try.f34 ⟨#[110, 101, 120, 116]⟩) + cntL n (partR Try.f30 Try.f34 Try.f36 Try.f37) + cntL n (partD Try.f30 Try.f35 Try.f36 Try.f37 ⟨#[116, 97, 107, 101, 110]⟩)) ∧
    (¬ n ≤ 5 → cntL n (partA Try.f30 Try.f32) + cntL n (partB Try.f30 Try.f32 Try.f33 Try.f34 ⟨#[110, 101, 120, 116]⟩) + cntL n (partC Try.f30 Try.f34 Try.f35 ⟨#[116, 97, 107, 101, 110]⟩) + cntL n (partR Try.f30 Try.f34 Try.f36 Try.f37) + cntL n (partD Try.f30 Try.f35 Try.f36 Try.f37 ⟨#[116, 97, 107, 101, 110]⟩) = 0) := by decide +kernel

/-- The needle is not empty, its signs stand at no edge; it is met in no text but, where the claim records, in that part. -/
def needleOk (nd : List UInt8) : Prop :=
  nd.isEmpty = false ∧ lastNot nd (partA Try.f30 Try.f32) = true ∧ headNot nd (partB Try.f30 Try.f32 Try.f33 Try.f34 ⟨#[110, 101, 120, 116]⟩) = true ∧ lastNot nd (partB Try.f30 Try.f32 Try.f33 Try.f34 ⟨#[110, 101, 120, 116]⟩) = true ∧
  headNot nd (partC Try.f30 Try.f34 Try.f35 ⟨#[116, 97, 107, 101, 110]⟩) = true ∧ headNot nd (partR Try.f30 Try.f34 Try.f36 Try.f37) = true ∧
  hasL nd (partA Try.f30 Try.f32) = false ∧ hasL nd (partB Try.f30 Try.f32 Try.f33 Try.f34 ⟨#[110, 101, 120, 116]⟩) = false ∧ hasL nd (partC Try.f30 Try.f34 Try.f35 ⟨#[116, 97, 107, 101, 110]⟩) = false ∧ hasL nd (partR Try.f30 Try.f34 Try.f36 Try.f37) = true ∧
  lastNot nd (partR Try.f30 Try.f34 Try.f36 Try.f37) = true ∧ headNot nd (partD Try.f30 Try.f35 Try.f36 Try.f37 ⟨#[116, 97, 107, 101, 110]⟩) = true

theorem needle1 : needleOk (argAt Try.f8 94).data.toList := by unfold needleOk; decide +kernel
theorem needle2 : needleOk (argAt Try.f8 106).data.toList := by unfold needleOk; decide +kernel
theorem needle_size : (argAt Try.f8 94).size ≤ 4096 ∧ (argAt Try.f8 106).size ≤ 4096 := by decide +kernel

end Go.Proofs.Qxb6603356a
