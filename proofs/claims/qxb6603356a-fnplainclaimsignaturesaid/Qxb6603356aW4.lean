import Derived.Test.Qxb6603356aW3
namespace Go.Proofs.Qxb6603356a
open Go.RowKit

/-! ### The batch's text: her placeholders -/

theorem b_last8 : lastOk (litAt Try.f27 8).data.toList = true := by decide +kernel
theorem b_head9 : headOk (litAt Try.f27 9).data.toList = true := by decide +kernel
theorem b_head3 (q : Bool) : headOk (clause Try.f27 q).data.toList = true := by cases q <;> decide +kernel
theorem b_head12 : headOk (litAt Try.f27 12).data.toList = true := by decide +kernel
theorem b_last12 : lastOk (litAt Try.f27 12).data.toList = true := by decide +kernel
theorem b_head16 : headOk (litAt Try.f27 16).data.toList = true := by decide +kernel

theorem b_size : (litAt Try.f27 8).size + (litAt Try.f27 9).size + (litAt Try.f27 3).size + (litAt Try.f27 12).size + (litAt Try.f27 16).size ≤ 4096 := by decide +kernel

theorem b_cnt : ∀ n ∈ ([1, 2, 3, 4, 5, 6, 7, 8, 9] : List Int), cntL n (litAt Try.f27 8).data.toList = 0 ∧ cntL n (litAt Try.f27 9).data.toList = 0 ∧ cntL n (clause Try.f27 true).data.toList = (if n = 4 then 1 else 0) ∧ cntL n (clause Try.f27 false).data.toList = 0 ∧
    cntL n (litAt Try.f27 12).data.toList = (if n ≤ 3 then 1 else 0) ∧ cntL n (litAt Try.f27 16).data.toList = 0 := by decide +kernel

theorem b_seq (q : Bool) : seqL (litAt Try.f27 8).data.toList = [] ∧ seqL (litAt Try.f27 9).data.toList = [] ∧ seqL (clause Try.f27 q).data.toList = [] ∧ seqL (litAt Try.f27 12).data.toList = [] ∧ seqL (litAt Try.f27 16).data.toList = [] := by
  cases q <;> decide +kernel

theorem one_to_nine {n : Int} (h1 : 1 ≤ n) (h9 : n ≤ 9) : n ∈ ([1, 2, 3, 4, 5, 6, 7, 8, 9] : List Int) := by
  simp; omega

theorem batch_cnt (t : ByteArray) (q : Bool) {n : Int} (h1 : 1 ≤ n) (h9 : n ≤ 9) :
    cntL n (batchT Try.f27 t q).data.toList = 2 * cntL n t.data.toList + (if n ≤ 3 then 1 else 0) + (if n = 4 ∧ q = true then 1 else 0) := by
  obtain ⟨e8, e9, e3, e3', e12, e16⟩ := b_cnt n (one_to_nine h1 h9)
  unfold batchT
  rw [app_list, app_list, app_list, app_list, app_list, app_list, cnt_head n b_head16, cnt_last n (lastOk_append _ b_last12), cnt_head n b_head12, cnt_head n (b_head3 q), cnt_head n b_head9, cnt_last n b_last8, e8, e9, e12, e16]
  cases q
  · rw [e3']; simp; omega
  · rw [e3]; simp; omega

theorem batch_seq (t : ByteArray) (q : Bool) : seqL (batchT Try.f27 t q).data.toList = seqL t.data.toList ++ seqL t.data.toList := by
  obtain ⟨e8, e9, e3, e12, e16⟩ := b_seq q
  unfold batchT
  rw [app_list, app_list, app_list, app_list, app_list, app_list, seq_head b_head16, seq_last (lastOk_append _ b_last12), seq_head b_head12, seq_head (b_head3 q), seq_head b_head9, seq_last b_last8, e8, e9, e12, e16, e3]
  simp

theorem clause_size (q : Bool) : (clause Try.f27 q).size ≤ (litAt Try.f27 3).size := by
  cases q
  · exact Nat.zero_le _
  · exact Nat.le_refl _

theorem batch_size (t : ByteArray) (q : Bool) (ht : t.size ≤ 4096) : (batchT Try.f27 t q).size ≤ 16384 := by
  have h := b_size
  have h2 := clause_size q
  unfold batchT
  simp only [ByteArray.size_append]
  omega

end Go.Proofs.Qxb6603356a
