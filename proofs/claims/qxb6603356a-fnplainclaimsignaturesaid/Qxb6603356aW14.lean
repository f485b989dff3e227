import Derived.Test.Qxb6603356aW13
namespace Go.Proofs.Qxb6603356a
open Go.RowKit

theorem nine {n : Int} (h1 : 1 ≤ n) (h9 : n ≤ 9) : n ∈ ([1, 2, 3, 4, 5, 6, 7, 8, 9] : List Int) := by
  simp; omega

def wantB (j : Int) (cr cp ci : Nat) (q : Bool) : Bool := decide (j ≤ 5) || decide (0 < cr) || decide (0 < cp) || (q && decide (0 < ci))

theorem claim_cnt (p r i : ByteArray) (q : Bool) {n : Int} (h1 : 1 ≤ n) (h9 : n ≤ 9) :
    decide (0 < cntL n (claimT Try.f30 Try.f32 Try.f33 Try.f34 Try.f35 Try.f36 Try.f37 ⟨#[110, 101, 120, 116]⟩ ⟨#[116, 97, 107, 101, 110]⟩ p r i q).data.toList) = wantB n (cntL n r.data.toList) (cntL n p.data.toList) (cntL n i.data.toList) q := by
  obtain ⟨k0, k1, kz⟩ := cnt_parts n (nine h1 h9)
  rw [Bool.eq_iff_iff]
  cases q
  · rw [claim_list0, cnt_head n ok_C, cnt_last n (lastOk_append _ ok_B.2), cnt_head n ok_B.1, cnt_last n ok_A]
    simp only [wantB, decide_eq_true_eq, Bool.or_eq_true, Bool.false_and, Bool.false_eq_true, or_false]
    by_cases h : n ≤ 5
    · have := k0 h; constructor <;> intro _ <;> omega
    · have := kz h; constructor <;> intro _ <;> omega
  · rw [claim_list1, cnt_head n ok_D, cnt_last n (lastOk_append _ ok_R.2), cnt_head n ok_R.1, cnt_last n (lastOk_append _ ok_B.2), cnt_head n ok_B.1, cnt_last n ok_A]
    simp only [wantB, decide_eq_true_eq, Bool.or_eq_true, Bool.true_and]
    by_cases h : n ≤ 5
    · have := k1 h; constructor <;> intro _ <;> omega
    · have := kz h; constructor <;> intro _ <;> omega

theorem claim_seq0 (p r i : ByteArray) :
    seqL (claimT Try.f30 Try.f32 Try.f33 Try.f34 Try.f35 Try.f36 Try.f37 ⟨#[110, 101, 120, 116]⟩ ⟨#[116, 97, 107, 101, 110]⟩ p r i false).data.toList = seqL r.data.toList ++ seqL p.data.toList := by
  obtain ⟨eA, eB, eC, -, -⟩ := seq_parts
  rw [claim_list0, seq_head ok_C, seq_last (lastOk_append _ ok_B.2), seq_head ok_B.1, seq_last ok_A, eA, eB, eC]
  simp

theorem claim_seq1 (p r i : ByteArray) :
    seqL (claimT Try.f30 Try.f32 Try.f33 Try.f34 Try.f35 Try.f36 Try.f37 ⟨#[110, 101, 120, 116]⟩ ⟨#[116, 97, 107, 101, 110]⟩ p r i true).data.toList = seqL r.data.toList ++ seqL p.data.toList ++ seqL i.data.toList := by
  obtain ⟨eA, eB, -, eR, eD⟩ := seq_parts
  rw [claim_list1, seq_head ok_D, seq_last (lastOk_append _ ok_R.2), seq_head ok_R.1, seq_last (lastOk_append _ ok_B.2), seq_head ok_B.1, seq_last ok_A, eA, eB, eR, eD]
  simp

theorem claim_has {nd : List UInt8} (h : needleOk nd) (p r i : ByteArray) (q : Bool) :
    hasL nd (claimT Try.f30 Try.f32 Try.f33 Try.f34 Try.f35 Try.f36 Try.f37 ⟨#[110, 101, 120, 116]⟩ ⟨#[116, 97, 107, 101, 110]⟩ p r i q).data.toList = (q || hasL nd r.data.toList || hasL nd p.data.toList) := by
  obtain ⟨n0, lA, hB, lB, hC, hR, zA, zB, zC, zR, lR, hD⟩ := h
  cases q
  · rw [claim_list0, has_headNot n0 hC, has_lastNot n0 (lastNot_append _ lB), has_headNot n0 hB, has_lastNot n0 lA, zA, zB, zC]
    simp
  · rw [claim_list1, has_headNot n0 hD, has_lastNot n0 (lastNot_append _ lR), has_headNot n0 hR, zR]
    simp

set_option maxHeartbeats 1000000 in
theorem bytes22 (a b c d : ByteArray) (q : Bool) (w : World) (ha : a.size ≤ 4096) (hb : b.size ≤ 4096) (hc : c.size ≤ 4096) (hd : d.size ≤ 4096) :
    Calls Try.prog 22 #[.string a, .string b, .string c, .string d, .bool q] w fun x w' => x = .returned (.bool true) ∧ w = w' := by
  go_enter Try.func22, Try.ntmps22
  go_wp2
  go_ret
  exact ⟨rfl, rfl⟩

set_option maxHeartbeats 1000000 in
theorem bytes22_any (a b c d : ByteArray) (q : Bool) (w : World) :
    Calls Try.prog 22 #[.string a, .string b, .string c, .string d, .bool q] w fun x w' => ∃ v : Bool, x = .returned (.bool v) ∧ w = w' := by
  go_enter Try.func22, Try.ntmps22
  go_wp2
  all_goals (go_ret; exact ⟨_, rfl, rfl⟩)

end Go.Proofs.Qxb6603356a
