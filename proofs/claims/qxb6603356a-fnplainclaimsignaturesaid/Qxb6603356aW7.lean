import Derived.Test.Qxb6603356aW4
import Derived.Test.Qxb6603356aW6
namespace Go.Proofs.Qxb6603356a
open Go.RowKit

theorem byt_append (x y : ByteArray) (i : Nat) : byt (x ++ y) i = if i < x.size then byt x i else byt y (i - x.size) := by
  unfold byt
  rw [app_list, List.getD_eq_getElem?_getD, List.getElem?_append, size_list]
  split <;> rw [List.getD_eq_getElem?_getD]

theorem byt_tail (x r : ByteArray) (i : Nat) (h : i < r.size) : byt (x ++ r) ((x ++ r).size - 1 - i) = byt r (r.size - 1 - i) := by
  rw [byt_append, ByteArray.size_append, if_neg (by omega)]
  congr 1
  omega

theorem ext_mid (p a r : ByteArray) : (p ++ a ++ r).extract p.size (p.size + a.size) = a := by
  apply ByteArray.ext
  apply Array.ext'
  rw [ext_list, app_list, app_list, List.append_assoc, List.drop_append_of_le_length (by rw [size_list]; omega), show p.data.toList.drop p.size = [] from List.drop_eq_nil_of_le (by rw [size_list]; omega), List.nil_append, show p.size + a.size - p.size = a.data.toList.length from by rw [size_list]; omega]
  simp

theorem hole_of (p a b r : ByteArray) : Hole (p ++ r) a (p ++ a ++ r) b (p ++ b ++ r) p.size := by
  have s0 : (p ++ r).size = p.size + r.size := ByteArray.size_append
  refine ⟨by omega, ?_, ?_, ?_, ?_, ?_, ?_, ext_mid p a r, ext_mid p b r⟩
  · simp only [ByteArray.size_append]; omega
  · simp only [ByteArray.size_append]; omega
  · intro i hi
    rw [byt_append, if_pos hi, byt_append, if_pos (by rw [ByteArray.size_append]; omega), byt_append, if_pos hi]
  · intro i hi
    rw [byt_append, if_pos hi, byt_append, if_pos (by rw [ByteArray.size_append]; omega), byt_append, if_pos hi]
  · intro i hi
    rw [byt_tail p r i (by omega), byt_tail (p ++ a) r i (by omega)]
  · intro i hi
    rw [byt_tail p r i (by omega), byt_tail (p ++ b) r i (by omega)]

theorem list_eq {a b : ByteArray} (h : a.data.toList = b.data.toList) : a = b := ByteArray.ext (Array.ext' h)

theorem batch_hole (t : ByteArray) : Hole (batchT Try.f27 t false) (clause Try.f27 true) (batchT Try.f27 t true) (clause Try.f27 true) (batchT Try.f27 t true) (litAt Try.f27 8 ++ t ++ litAt Try.f27 9).size := by
  have h := hole_of (litAt Try.f27 8 ++ t ++ litAt Try.f27 9) (clause Try.f27 true) (clause Try.f27 true) (litAt Try.f27 12 ++ t ++ litAt Try.f27 16)
  have e0 : (clause Try.f27 false).data.toList = [] := rfl
  have e1 : batchT Try.f27 t false = litAt Try.f27 8 ++ t ++ litAt Try.f27 9 ++ (litAt Try.f27 12 ++ t ++ litAt Try.f27 16) := by
    apply list_eq; unfold batchT; simp only [app_list, e0, List.append_assoc, List.nil_append]
  have e2 : batchT Try.f27 t true = litAt Try.f27 8 ++ t ++ litAt Try.f27 9 ++ clause Try.f27 true ++ (litAt Try.f27 12 ++ t ++ litAt Try.f27 16) := by
    apply list_eq; unfold batchT; simp only [app_list, List.append_assoc]
  rw [e1, e2]
  exact h

set_option maxHeartbeats 400000 in
theorem bytes15 (t : ByteArray) (w : World) (h : t.size ≤ maxLen) :
    Calls Try.prog 15 #[.string t] w fun e w' => e = .returned (.bool (decide (t.size ≤ 1048576))) ∧ w = w' := by
  unfold maxLen at h
  by_cases h1 : t.size ≤ 1048576
  all_goals
    go_enter Try.func15, Try.ntmps15
    go_wp2
    go_ret
    exact ⟨by simp [*], rfl⟩

theorem clause_cap : (clause Try.f27 true).size ≤ 262144 := by decide +kernel

set_option maxRecDepth 100000 in
set_option maxHeartbeats 1000000 in
theorem walk4 (t : ByteArray) (hs : t.size ≤ maxLen) (w : World) :
    Calls Try.prog 4 #[.string t] w fun e w' => e = .returned (.bool true) ∧ Grown w w' := by
  have hs' : t.size ≤ 9223372036854775807 := by unfold maxLen at hs; omega
  by_cases hz : t.size ≤ 1048576
  · by_cases hz2 : t.size ≤ 4096
    · go_enter Try.func4, Try.ntmps4
      go_wp2_with (go_at_call 15; refine (bytes15 t _ hs).mono ?_; rintro e w' ⟨rfl, rfl⟩)
      refine (zzbatch_any t false _ hz2).mono ?_
      rintro e w1 ⟨rfl, rfl⟩
      have hg : Grown w (w.alloc (.cells #[.string t, .bool false] 36)) := (Grown.refl w).alloc _ _
      obtain ⟨w1, hw1⟩ : ∃ w1, w1 = w.alloc (.cells #[.string t, .bool false] 36) := ⟨_, rfl⟩
      rw [← hw1] at hg ⊢
      clear hw1
      go_wp2_with fail
      refine (zzbatch_any t true _ hz2).mono ?_
      rintro e w2 ⟨rfl, rfl⟩
      have hg : Grown w (w1.alloc (.cells #[.string t, .bool true] 36)) := hg.alloc _ _
      obtain ⟨w2, hw2⟩ : ∃ w2, w2 = w1.alloc (.cells #[.string t, .bool true] 36) := ⟨_, rfl⟩
      rw [← hw2] at hg ⊢
      clear hw2
      go_wp2_with fail
      have hH := batch_hole t
      have s0 := batch_size t false hz2
      have hcl := clause_cap
      obtain ⟨C, hC⟩ : ∃ C, C = clause Try.f27 true := ⟨_, rfl⟩
      rw [← hC] at hH hcl
      have hC' : C = _ := hC.trans (show clause Try.f27 true = ⟨#[113, 117, 101, 117, 101, 32, 61, 32, 36, 52, 32, 65, 78, 68, 32]⟩ from by kernel_rfl)
      rw [← hC']
      refine (sameHole_any _ _ _ _ _ _ _ (by omega) hcl hcl hH).mono ?_
      rintro e w3 ⟨rfl, n, rfl⟩
      have hg : Grown w (w2.drewN n) := hg
      clear hC hC' hH hcl s0
      go_wp2_with fail
      go_ret
      exact ⟨rfl, hg⟩
    · go_enter Try.func4, Try.ntmps4
      go_wp2_with (go_at_call 15; refine (bytes15 t _ hs).mono ?_; rintro e w' ⟨rfl, rfl⟩)
      go_ret
      exact ⟨rfl, Grown.refl _⟩
  · go_enter Try.func4, Try.ntmps4
    go_wp2_with (go_at_call 15; refine (bytes15 t _ hs).mono ?_; rintro e w' ⟨rfl, rfl⟩)
    go_ret
    exact ⟨rfl, Grown.refl _⟩

end Go.Proofs.Qxb6603356a
